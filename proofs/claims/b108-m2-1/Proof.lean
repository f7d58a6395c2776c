import JvmDerived
import JvmDerived.Pilot.@@N@@Statement
import JvmDerived.Pilot.@@N@@Code
set_option linter.unusedVariables false
set_option linter.unusedSimpArgs false

namespace Jvm.Pilot.@@N@@
open Jvm Jvm.ClassFile Sem Op Lib Jvm.Free Jvm.Stand Jvm.LawKit Jvm.RoadKit Bundle Jvm.Pilot.@@N@@.Jvm.D
/-- from S the run comes to an end of which P holds -/
abbrev Ends (tb : Tables) (e : Env) (below : List Frame) (S : State) (P : State → Outcome → Prop) : Prop := ∃ t o, Steps tb e below S t ∧ P t o
theorem own_via {tb : Tables} {e : Env} {below : List Frame} {S S' : State} {P : State → Outcome → Prop} (h : ∀ t, Steps tb e below S' t → Steps tb e below S t) (k : Ends tb e below S' P) : Ends tb e below S P := by
  obtain ⟨t, o, a, b⟩ := k
  exact ⟨t, o, h t a, b⟩
theorem own_begin {tb : Tables} {e : Env} {below : List Frame} {T : State} {g g' : JFrame} {P : State → Outcome → Prop} (q : g = g') (k : Ends tb e below (T.setTop g') P) : ∃ t o, Steps tb e below (T.setTop g) t ∧ P t o := by
  subst q
  exact k
/-- several roads come to one place -/
theorem own_join {tb : Tables} {e : Env} {below : List Frame} {S0 : State} {P : State → Outcome → Prop} {α : Type} (S : α → State) (H : α → Prop) (k1 : (∀ w, H w → Ends tb e below (S w) P) → Ends tb e below S0 P) (k2 : ∀ w, H w → Ends tb e below (S w) P) : Ends tb e below S0 P := k1 k2
theorem own_rwm {s t : State} {o : Outcome} {L : List Loc} {k n k' n' : Nat} (h : ReturnedEndW s o t L k n) (h1 : k ≤ k') (h2 : n ≤ n') : ReturnedEndW s o t L k' n' := ⟨h.1, h.2.1, h.2.2.1, h.2.2.2.mono h1 h2⟩
theorem own_narR {v : Value} {C : String} (h : v.isRef = true) : narrow (.object C) v = v := by cases v <;> first | rfl | (simp [Value.isRef] at h)
theorem own_fitR {v : Value} {C : String} (h : v.isRef = true) : fits (.object C) v = true := by cases v <;> first | rfl | (simp [Value.isRef] at h)
theorem own_catR {v : Value} (h : v.isRef = true) : v.category = 1 := by cases v <;> first | rfl | (simp [Value.isRef] at h)
theorem own_selPriv {s : State} {args : Array Value} {y z : MethodName} (hz : z.cls = y.cls) (hsel : (Jvm.Cond.selects z.cls z z).before args s = true) (hpriv : s.PrivateAt y) (hinst : (Jvm.Cond.instanceMethod y).before args s = true) (hy : y.cls ≠ "java/lang/invoke/MethodHandle" ∧ y.cls ≠ "java/lang/invoke/VarHandle") : (Jvm.Cond.selects y.cls y y).before args s = true := by
  obtain ⟨c2, r2, m2, -, -, q3, -, kP, hkP, hkPi⟩ := Cond.selects_spec hsel
  exact selects_self_of_private (hz ▸ findClass_of_methodNamed q3) hkP hkPi hpriv hinst hy
section OwnSteps
variable {tb : Tables} [Ours tb] {e : Env} {below : List Frame} {T : State} {m : MethodId} {c : Code} {P : State → Outcome → Prop} {pc pc' : Nat} {ls l' : Array Slot} {st : List Value}
theorem s_iload (h : At T m c below) (hx : tb.exec = Jvm.exec) {k : Nat} {v : Int32} (hd : decode c.code pc = .ok (.iload k, 2)) (hl : ls[k]? = some (.val (.int v))) (hp : pc + 2 = pc') (hr : Ends tb e below (T.setTop (mkF m pc' ls (.int v :: st))) P) : Ends tb e below (T.setTop (mkF m pc ls st)) P := by
  subst hp
  exact own_via (fun t_ k_ => XS.iload h hx rfl hd hl k_) hr
theorem s_istore (h : At T m c below) (hx : tb.exec = Jvm.exec) {k : Nat} {v : Int32} (hd : decode c.code pc = .ok (.istore k, 2)) (hl : storeLocals ls k (.int v) = some l') (hp : pc + 2 = pc') (hr : Ends tb e below (T.setTop (mkF m pc' l' st)) P) : Ends tb e below (T.setTop (mkF m pc ls (.int v :: st))) P := by
  subst hp
  exact own_via (fun t_ k_ => XS.istore h hx rfl hd rfl hl k_) hr
theorem s_iloadN (h : At T m c below) (hx : tb.exec = Jvm.exec) {k : Fin 4} {v : Int32} (hd : decode c.code pc = .ok (.iload_n k, 1)) (hl : ls[k.val]? = some (.val (.int v))) (hp : pc + 1 = pc') (hr : Ends tb e below (T.setTop (mkF m pc' ls (.int v :: st))) P) : Ends tb e below (T.setTop (mkF m pc ls st)) P := by
  subst hp
  exact own_via (fun t_ k_ => XS.iloadN h hx rfl hd hl k_) hr
theorem s_istoreN (h : At T m c below) (hx : tb.exec = Jvm.exec) {k : Fin 4} {v : Int32} (hd : decode c.code pc = .ok (.istore_n k, 1)) (hl : storeLocals ls k.val (.int v) = some l') (hp : pc + 1 = pc') (hr : Ends tb e below (T.setTop (mkF m pc' l' st)) P) : Ends tb e below (T.setTop (mkF m pc ls (.int v :: st))) P := by
  subst hp
  exact own_via (fun t_ k_ => XS.istoreN h hx rfl hd rfl hl k_) hr
theorem s_lload (h : At T m c below) (hx : tb.exec = Jvm.exec) {k : Nat} {v : Int64} (hd : decode c.code pc = .ok (.lload k, 2)) (hl : ls[k]? = some (.val (.long v))) (hp : pc + 2 = pc') (hr : Ends tb e below (T.setTop (mkF m pc' ls (.long v :: st))) P) : Ends tb e below (T.setTop (mkF m pc ls st)) P := by
  subst hp
  exact own_via (fun t_ k_ => XS.lload h hx rfl hd hl k_) hr
theorem s_lstore (h : At T m c below) (hx : tb.exec = Jvm.exec) {k : Nat} {v : Int64} (hd : decode c.code pc = .ok (.lstore k, 2)) (hl : storeLocals ls k (.long v) = some l') (hp : pc + 2 = pc') (hr : Ends tb e below (T.setTop (mkF m pc' l' st)) P) : Ends tb e below (T.setTop (mkF m pc ls (.long v :: st))) P := by
  subst hp
  exact own_via (fun t_ k_ => XS.lstore h hx rfl hd rfl hl k_) hr
theorem s_lloadN (h : At T m c below) (hx : tb.exec = Jvm.exec) {k : Fin 4} {v : Int64} (hd : decode c.code pc = .ok (.lload_n k, 1)) (hl : ls[k.val]? = some (.val (.long v))) (hp : pc + 1 = pc') (hr : Ends tb e below (T.setTop (mkF m pc' ls (.long v :: st))) P) : Ends tb e below (T.setTop (mkF m pc ls st)) P := by
  subst hp
  exact own_via (fun t_ k_ => XS.lloadN h hx rfl hd hl k_) hr
theorem s_lstoreN (h : At T m c below) (hx : tb.exec = Jvm.exec) {k : Fin 4} {v : Int64} (hd : decode c.code pc = .ok (.lstore_n k, 1)) (hl : storeLocals ls k.val (.long v) = some l') (hp : pc + 1 = pc') (hr : Ends tb e below (T.setTop (mkF m pc' l' st)) P) : Ends tb e below (T.setTop (mkF m pc ls (.long v :: st))) P := by
  subst hp
  exact own_via (fun t_ k_ => XS.lstoreN h hx rfl hd rfl hl k_) hr
theorem s_dload (h : At T m c below) (hx : tb.exec = Jvm.exec) {k : Nat} {v : UInt64} (hd : decode c.code pc = .ok (.dload k, 2)) (hl : ls[k]? = some (.val (.double v))) (hp : pc + 2 = pc') (hr : Ends tb e below (T.setTop (mkF m pc' ls (.double v :: st))) P) : Ends tb e below (T.setTop (mkF m pc ls st)) P := by
  subst hp
  exact own_via (fun t_ k_ => XS.dload h hx rfl hd hl k_) hr
theorem s_dstore (h : At T m c below) (hx : tb.exec = Jvm.exec) {k : Nat} {v : UInt64} (hd : decode c.code pc = .ok (.dstore k, 2)) (hl : storeLocals ls k (.double v) = some l') (hp : pc + 2 = pc') (hr : Ends tb e below (T.setTop (mkF m pc' l' st)) P) : Ends tb e below (T.setTop (mkF m pc ls (.double v :: st))) P := by
  subst hp
  exact own_via (fun t_ k_ => XS.dstore h hx rfl hd rfl hl k_) hr
theorem s_dloadN (h : At T m c below) (hx : tb.exec = Jvm.exec) {k : Fin 4} {v : UInt64} (hd : decode c.code pc = .ok (.dload_n k, 1)) (hl : ls[k.val]? = some (.val (.double v))) (hp : pc + 1 = pc') (hr : Ends tb e below (T.setTop (mkF m pc' ls (.double v :: st))) P) : Ends tb e below (T.setTop (mkF m pc ls st)) P := by
  subst hp
  exact own_via (fun t_ k_ => XS.dloadN h hx rfl hd hl k_) hr
theorem s_dstoreN (h : At T m c below) (hx : tb.exec = Jvm.exec) {k : Fin 4} {v : UInt64} (hd : decode c.code pc = .ok (.dstore_n k, 1)) (hl : storeLocals ls k.val (.double v) = some l') (hp : pc + 1 = pc') (hr : Ends tb e below (T.setTop (mkF m pc' l' st)) P) : Ends tb e below (T.setTop (mkF m pc ls (.double v :: st))) P := by
  subst hp
  exact own_via (fun t_ k_ => XS.dstoreN h hx rfl hd rfl hl k_) hr
theorem s_aload (h : At T m c below) (hx : tb.exec = Jvm.exec) {k : Nat} {v : Value} (hd : decode c.code pc = .ok (.aload k, 2)) (hl : ls[k]? = some (.val v)) (hv : v.isRef = true) (hp : pc + 2 = pc') (hr : Ends tb e below (T.setTop (mkF m pc' ls (v :: st))) P) : Ends tb e below (T.setTop (mkF m pc ls st)) P := by
  subst hp
  exact own_via (fun t_ k_ => XS.aload h hx rfl hd hl hv k_) hr
theorem s_astore (h : At T m c below) (hx : tb.exec = Jvm.exec) {k : Nat} {v : Value} (hd : decode c.code pc = .ok (.astore k, 2)) (hv : v.isRef = true) (hl : storeLocals ls k v = some l') (hp : pc + 2 = pc') (hr : Ends tb e below (T.setTop (mkF m pc' l' st)) P) : Ends tb e below (T.setTop (mkF m pc ls (v :: st))) P := by
  subst hp
  exact own_via (fun t_ k_ => XS.astore h hx rfl hd rfl hv hl k_) hr
theorem s_aloadN (h : At T m c below) (hx : tb.exec = Jvm.exec) {k : Fin 4} {v : Value} (hd : decode c.code pc = .ok (.aload_n k, 1)) (hl : ls[k.val]? = some (.val v)) (hv : v.isRef = true) (hp : pc + 1 = pc') (hr : Ends tb e below (T.setTop (mkF m pc' ls (v :: st))) P) : Ends tb e below (T.setTop (mkF m pc ls st)) P := by
  subst hp
  exact own_via (fun t_ k_ => XS.aloadN h hx rfl hd hl hv k_) hr
theorem s_astoreN (h : At T m c below) (hx : tb.exec = Jvm.exec) {k : Fin 4} {v : Value} (hd : decode c.code pc = .ok (.astore_n k, 1)) (hv : v.isRef = true) (hl : storeLocals ls k.val v = some l') (hp : pc + 1 = pc') (hr : Ends tb e below (T.setTop (mkF m pc' l' st)) P) : Ends tb e below (T.setTop (mkF m pc ls (v :: st))) P := by
  subst hp
  exact own_via (fun t_ k_ => XS.astoreN h hx rfl hd rfl hv hl k_) hr
theorem s_iconst (h : At T m c below) (hx : tb.exec = Jvm.exec) {i : Int} {v : Int32} (hd : decode c.code pc = .ok (.iconst i, 1)) (hv : Int32.ofInt i = v) (hp : pc + 1 = pc') (hr : Ends tb e below (T.setTop (mkF m pc' ls (.int v :: st))) P) : Ends tb e below (T.setTop (mkF m pc ls st)) P := by
  subst hp hv
  exact own_via (fun t_ k_ => XS.iconst h hx rfl hd k_) hr
theorem s_bipush (h : At T m c below) (hx : tb.exec = Jvm.exec) {i : Int} {v : Int32} (hd : decode c.code pc = .ok (.bipush i, 2)) (hv : (Int8.ofInt i).toInt32 = v) (hp : pc + 2 = pc') (hr : Ends tb e below (T.setTop (mkF m pc' ls (.int v :: st))) P) : Ends tb e below (T.setTop (mkF m pc ls st)) P := by
  subst hp hv
  exact own_via (fun t_ k_ => XS.bipush h hx rfl hd k_) hr
theorem s_sipush (h : At T m c below) (hx : tb.exec = Jvm.exec) {i : Int} {v : Int32} (hd : decode c.code pc = .ok (.sipush i, 3)) (hv : (Int16.ofInt i).toInt32 = v) (hp : pc + 3 = pc') (hr : Ends tb e below (T.setTop (mkF m pc' ls (.int v :: st))) P) : Ends tb e below (T.setTop (mkF m pc ls st)) P := by
  subst hp hv
  exact own_via (fun t_ k_ => XS.sipush h hx rfl hd k_) hr
theorem s_lconst (h : At T m c below) (hx : tb.exec = Jvm.exec) {i : Fin 2} {v : Int64} (hd : decode c.code pc = .ok (.lconst i, 1)) (hv : Int64.ofNat i = v) (hp : pc + 1 = pc') (hr : Ends tb e below (T.setTop (mkF m pc' ls (.long v :: st))) P) : Ends tb e below (T.setTop (mkF m pc ls st)) P := by
  subst hp hv
  exact own_via (fun t_ k_ => XS.lconst h hx rfl hd k_) hr
theorem s_aconstNull (h : At T m c below) (hx : tb.exec = Jvm.exec)  (hd : decode c.code pc = .ok (.aconst_null, 1))  (hp : pc + 1 = pc') (hr : Ends tb e below (T.setTop (mkF m pc' ls (.null :: st))) P) : Ends tb e below (T.setTop (mkF m pc ls st)) P := by
  subst hp
  exact own_via (fun t_ k_ => XS.aconstNull h hx rfl hd k_) hr
theorem s_iadd (h : At T m c below) (hx : tb.exec = Jvm.exec) {x y : Int32} (hd : decode c.code pc = .ok (.iadd, 1))  (hp : pc + 1 = pc') (hr : Ends tb e below (T.setTop (mkF m pc' ls (.int (x + y) :: st))) P) : Ends tb e below (T.setTop (mkF m pc ls (.int y :: .int x :: st))) P := by
  subst hp
  exact own_via (fun t_ k_ => XS.iadd h hx rfl hd rfl k_) hr
theorem s_isub (h : At T m c below) (hx : tb.exec = Jvm.exec) {x y : Int32} (hd : decode c.code pc = .ok (.isub, 1))  (hp : pc + 1 = pc') (hr : Ends tb e below (T.setTop (mkF m pc' ls (.int (x - y) :: st))) P) : Ends tb e below (T.setTop (mkF m pc ls (.int y :: .int x :: st))) P := by
  subst hp
  exact own_via (fun t_ k_ => XS.isub h hx rfl hd rfl k_) hr
theorem s_imul (h : At T m c below) (hx : tb.exec = Jvm.exec) {x y : Int32} (hd : decode c.code pc = .ok (.imul, 1))  (hp : pc + 1 = pc') (hr : Ends tb e below (T.setTop (mkF m pc' ls (.int (x * y) :: st))) P) : Ends tb e below (T.setTop (mkF m pc ls (.int y :: .int x :: st))) P := by
  subst hp
  exact own_via (fun t_ k_ => XS.imul h hx rfl hd rfl k_) hr
theorem s_iand (h : At T m c below) (hx : tb.exec = Jvm.exec) {x y : Int32} (hd : decode c.code pc = .ok (.iand, 1))  (hp : pc + 1 = pc') (hr : Ends tb e below (T.setTop (mkF m pc' ls (.int (x &&& y) :: st))) P) : Ends tb e below (T.setTop (mkF m pc ls (.int y :: .int x :: st))) P := by
  subst hp
  exact own_via (fun t_ k_ => XS.iand h hx rfl hd rfl k_) hr
theorem s_ior (h : At T m c below) (hx : tb.exec = Jvm.exec) {x y : Int32} (hd : decode c.code pc = .ok (.ior, 1))  (hp : pc + 1 = pc') (hr : Ends tb e below (T.setTop (mkF m pc' ls (.int (x ||| y) :: st))) P) : Ends tb e below (T.setTop (mkF m pc ls (.int y :: .int x :: st))) P := by
  subst hp
  exact own_via (fun t_ k_ => XS.ior h hx rfl hd rfl k_) hr
theorem s_ixor (h : At T m c below) (hx : tb.exec = Jvm.exec) {x y : Int32} (hd : decode c.code pc = .ok (.ixor, 1))  (hp : pc + 1 = pc') (hr : Ends tb e below (T.setTop (mkF m pc' ls (.int (x ^^^ y) :: st))) P) : Ends tb e below (T.setTop (mkF m pc ls (.int y :: .int x :: st))) P := by
  subst hp
  exact own_via (fun t_ k_ => XS.ixor h hx rfl hd rfl k_) hr
theorem s_ishl (h : At T m c below) (hx : tb.exec = Jvm.exec) {x y : Int32} (hd : decode c.code pc = .ok (.ishl, 1))  (hp : pc + 1 = pc') (hr : Ends tb e below (T.setTop (mkF m pc' ls (.int (x <<< (y &&& 31)) :: st))) P) : Ends tb e below (T.setTop (mkF m pc ls (.int y :: .int x :: st))) P := by
  subst hp
  exact own_via (fun t_ k_ => XS.ishl h hx rfl hd rfl k_) hr
theorem s_ishr (h : At T m c below) (hx : tb.exec = Jvm.exec) {x y : Int32} (hd : decode c.code pc = .ok (.ishr, 1))  (hp : pc + 1 = pc') (hr : Ends tb e below (T.setTop (mkF m pc' ls (.int (x >>> (y &&& 31)) :: st))) P) : Ends tb e below (T.setTop (mkF m pc ls (.int y :: .int x :: st))) P := by
  subst hp
  exact own_via (fun t_ k_ => XS.ishr h hx rfl hd rfl k_) hr
theorem s_iushr (h : At T m c below) (hx : tb.exec = Jvm.exec) {x y : Int32} (hd : decode c.code pc = .ok (.iushr, 1))  (hp : pc + 1 = pc') (hr : Ends tb e below (T.setTop (mkF m pc' ls (.int ((x.toUInt32 >>> (y &&& 31).toUInt32).toInt32) :: st))) P) : Ends tb e below (T.setTop (mkF m pc ls (.int y :: .int x :: st))) P := by
  subst hp
  exact own_via (fun t_ k_ => XS.iushr h hx rfl hd rfl k_) hr
theorem s_ladd (h : At T m c below) (hx : tb.exec = Jvm.exec) {x y : Int64} (hd : decode c.code pc = .ok (.ladd, 1))  (hp : pc + 1 = pc') (hr : Ends tb e below (T.setTop (mkF m pc' ls (.long (x + y) :: st))) P) : Ends tb e below (T.setTop (mkF m pc ls (.long y :: .long x :: st))) P := by
  subst hp
  exact own_via (fun t_ k_ => XS.ladd h hx rfl hd rfl k_) hr
theorem s_lsub (h : At T m c below) (hx : tb.exec = Jvm.exec) {x y : Int64} (hd : decode c.code pc = .ok (.lsub, 1))  (hp : pc + 1 = pc') (hr : Ends tb e below (T.setTop (mkF m pc' ls (.long (x - y) :: st))) P) : Ends tb e below (T.setTop (mkF m pc ls (.long y :: .long x :: st))) P := by
  subst hp
  exact own_via (fun t_ k_ => XS.lsub h hx rfl hd rfl k_) hr
theorem s_lmul (h : At T m c below) (hx : tb.exec = Jvm.exec) {x y : Int64} (hd : decode c.code pc = .ok (.lmul, 1))  (hp : pc + 1 = pc') (hr : Ends tb e below (T.setTop (mkF m pc' ls (.long (x * y) :: st))) P) : Ends tb e below (T.setTop (mkF m pc ls (.long y :: .long x :: st))) P := by
  subst hp
  exact own_via (fun t_ k_ => XS.lmul h hx rfl hd rfl k_) hr
theorem s_land (h : At T m c below) (hx : tb.exec = Jvm.exec) {x y : Int64} (hd : decode c.code pc = .ok (.land, 1))  (hp : pc + 1 = pc') (hr : Ends tb e below (T.setTop (mkF m pc' ls (.long (x &&& y) :: st))) P) : Ends tb e below (T.setTop (mkF m pc ls (.long y :: .long x :: st))) P := by
  subst hp
  exact own_via (fun t_ k_ => XS.land h hx rfl hd rfl k_) hr
theorem s_lor (h : At T m c below) (hx : tb.exec = Jvm.exec) {x y : Int64} (hd : decode c.code pc = .ok (.lor, 1))  (hp : pc + 1 = pc') (hr : Ends tb e below (T.setTop (mkF m pc' ls (.long (x ||| y) :: st))) P) : Ends tb e below (T.setTop (mkF m pc ls (.long y :: .long x :: st))) P := by
  subst hp
  exact own_via (fun t_ k_ => XS.lor h hx rfl hd rfl k_) hr
theorem s_lxor (h : At T m c below) (hx : tb.exec = Jvm.exec) {x y : Int64} (hd : decode c.code pc = .ok (.lxor, 1))  (hp : pc + 1 = pc') (hr : Ends tb e below (T.setTop (mkF m pc' ls (.long (x ^^^ y) :: st))) P) : Ends tb e below (T.setTop (mkF m pc ls (.long y :: .long x :: st))) P := by
  subst hp
  exact own_via (fun t_ k_ => XS.lxor h hx rfl hd rfl k_) hr
theorem s_lshl (h : At T m c below) (hx : tb.exec = Jvm.exec) {x : Int64} {y : Int32} (hd : decode c.code pc = .ok (.lshl, 1))  (hp : pc + 1 = pc') (hr : Ends tb e below (T.setTop (mkF m pc' ls (.long (x <<< (y &&& 0x3f).toInt64) :: st))) P) : Ends tb e below (T.setTop (mkF m pc ls (.int y :: .long x :: st))) P := by
  subst hp
  exact own_via (fun t_ k_ => XS.lshl h hx rfl hd rfl k_) hr
theorem s_lshr (h : At T m c below) (hx : tb.exec = Jvm.exec) {x : Int64} {y : Int32} (hd : decode c.code pc = .ok (.lshr, 1))  (hp : pc + 1 = pc') (hr : Ends tb e below (T.setTop (mkF m pc' ls (.long (x >>> (y &&& 0x3f).toInt64) :: st))) P) : Ends tb e below (T.setTop (mkF m pc ls (.int y :: .long x :: st))) P := by
  subst hp
  exact own_via (fun t_ k_ => XS.lshr h hx rfl hd rfl k_) hr
theorem s_lushr (h : At T m c below) (hx : tb.exec = Jvm.exec) {x : Int64} {y : Int32} (hd : decode c.code pc = .ok (.lushr, 1))  (hp : pc + 1 = pc') (hr : Ends tb e below (T.setTop (mkF m pc' ls (.long ((x.toUInt64 >>> (y &&& 0x3f).toInt64.toUInt64).toInt64) :: st))) P) : Ends tb e below (T.setTop (mkF m pc ls (.int y :: .long x :: st))) P := by
  subst hp
  exact own_via (fun t_ k_ => XS.lushr h hx rfl hd rfl k_) hr
theorem s_idiv (h : At T m c below) (hx : tb.exec = Jvm.exec) {x y : Int32} (hd : decode c.code pc = .ok (.idiv, 1)) (hy : y ≠ 0) (hp : pc + 1 = pc') (hr : Ends tb e below (T.setTop (mkF m pc' ls (.int (x / y) :: st))) P) : Ends tb e below (T.setTop (mkF m pc ls (.int y :: .int x :: st))) P := by
  subst hp
  exact own_via (fun t_ k_ => XS.idiv h hx rfl hd rfl hy k_) hr
theorem s_ldiv (h : At T m c below) (hx : tb.exec = Jvm.exec) {x y : Int64} (hd : decode c.code pc = .ok (.ldiv, 1)) (hy : y ≠ 0) (hp : pc + 1 = pc') (hr : Ends tb e below (T.setTop (mkF m pc' ls (.long (x / y) :: st))) P) : Ends tb e below (T.setTop (mkF m pc ls (.long y :: .long x :: st))) P := by
  subst hp
  exact own_via (fun t_ k_ => XS.ldiv h hx rfl hd rfl hy k_) hr
theorem s_lrem (h : At T m c below) (hx : tb.exec = Jvm.exec) {x y : Int64} (hd : decode c.code pc = .ok (.lrem, 1)) (hy : y ≠ 0) (hp : pc + 1 = pc') (hr : Ends tb e below (T.setTop (mkF m pc' ls (.long (x % y) :: st))) P) : Ends tb e below (T.setTop (mkF m pc ls (.long y :: .long x :: st))) P := by
  subst hp
  exact own_via (fun t_ k_ => XS.lrem h hx rfl hd rfl hy (by rw [lrem_mod]; exact k_)) hr
theorem s_ineg (h : At T m c below) (hx : tb.exec = Jvm.exec) {x : Int32} (hd : decode c.code pc = .ok (.ineg, 1))  (hp : pc + 1 = pc') (hr : Ends tb e below (T.setTop (mkF m pc' ls (.int (-x) :: st))) P) : Ends tb e below (T.setTop (mkF m pc ls (.int x :: st))) P := by
  subst hp
  exact own_via (fun t_ k_ => XS.ineg h hx rfl hd rfl k_) hr
theorem s_lneg (h : At T m c below) (hx : tb.exec = Jvm.exec) {x : Int64} (hd : decode c.code pc = .ok (.lneg, 1))  (hp : pc + 1 = pc') (hr : Ends tb e below (T.setTop (mkF m pc' ls (.long (-x) :: st))) P) : Ends tb e below (T.setTop (mkF m pc ls (.long x :: st))) P := by
  subst hp
  exact own_via (fun t_ k_ => XS.lneg h hx rfl hd rfl k_) hr
theorem s_i2l (h : At T m c below) (hx : tb.exec = Jvm.exec) {x : Int32} (hd : decode c.code pc = .ok (.i2l, 1))  (hp : pc + 1 = pc') (hr : Ends tb e below (T.setTop (mkF m pc' ls (.long (x.toInt64) :: st))) P) : Ends tb e below (T.setTop (mkF m pc ls (.int x :: st))) P := by
  subst hp
  exact own_via (fun t_ k_ => XS.i2l h hx rfl hd rfl k_) hr
theorem s_l2i (h : At T m c below) (hx : tb.exec = Jvm.exec) {x : Int64} (hd : decode c.code pc = .ok (.l2i, 1))  (hp : pc + 1 = pc') (hr : Ends tb e below (T.setTop (mkF m pc' ls (.int (x.toInt32) :: st))) P) : Ends tb e below (T.setTop (mkF m pc ls (.long x :: st))) P := by
  subst hp
  exact own_via (fun t_ k_ => XS.l2i h hx rfl hd rfl k_) hr
theorem s_i2b (h : At T m c below) (hx : tb.exec = Jvm.exec) {x : Int32} (hd : decode c.code pc = .ok (.i2b, 1))  (hp : pc + 1 = pc') (hr : Ends tb e below (T.setTop (mkF m pc' ls (.int (x.toInt8.toInt32) :: st))) P) : Ends tb e below (T.setTop (mkF m pc ls (.int x :: st))) P := by
  subst hp
  exact own_via (fun t_ k_ => XS.i2b h hx rfl hd rfl k_) hr
theorem s_i2s (h : At T m c below) (hx : tb.exec = Jvm.exec) {x : Int32} (hd : decode c.code pc = .ok (.i2s, 1))  (hp : pc + 1 = pc') (hr : Ends tb e below (T.setTop (mkF m pc' ls (.int (x.toInt16.toInt32) :: st))) P) : Ends tb e below (T.setTop (mkF m pc ls (.int x :: st))) P := by
  subst hp
  exact own_via (fun t_ k_ => XS.i2s h hx rfl hd rfl k_) hr
theorem s_i2c (h : At T m c below) (hx : tb.exec = Jvm.exec) {x : Int32} (hd : decode c.code pc = .ok (.i2c, 1))  (hp : pc + 1 = pc') (hr : Ends tb e below (T.setTop (mkF m pc' ls (.int (x.toUInt32.toUInt16.toUInt32.toInt32) :: st))) P) : Ends tb e below (T.setTop (mkF m pc ls (.int x :: st))) P := by
  subst hp
  exact own_via (fun t_ k_ => XS.i2c h hx rfl hd rfl k_) hr
theorem s_lcmp (h : At T m c below) (hx : tb.exec = Jvm.exec) {x y : Int64} (hd : decode c.code pc = .ok (.lcmp, 1))  (hp : pc + 1 = pc') (hr : Ends tb e below (T.setTop (mkF m pc' ls (.int (lcmpW x y) :: st))) P) : Ends tb e below (T.setTop (mkF m pc ls (.long y :: .long x :: st))) P := by
  subst hp
  exact own_via (fun t_ k_ => XS.lcmp h hx rfl hd rfl k_) hr
theorem s_l2d (h : At T m c below) (hx : tb.exec = Jvm.exec) {x : Int64} (hd : decode c.code pc = .ok (.l2d, 1))  (hp : pc + 1 = pc') (hr : Ends tb e below (T.setTop (mkF m pc' ls (.double (FP.l2d x) :: st))) P) : Ends tb e below (T.setTop (mkF m pc ls (.long x :: st))) P := by
  subst hp
  exact own_via (fun t_ k_ => XS.l2dS h hx rfl hd rfl rfl k_) hr
theorem s_dneg (h : At T m c below) (hx : tb.exec = Jvm.exec) {x : UInt64} (hd : decode c.code pc = .ok (.dneg, 1))  (hp : pc + 1 = pc') (hr : Ends tb e below (T.setTop (mkF m pc' ls (.double (FP.dneg x) :: st))) P) : Ends tb e below (T.setTop (mkF m pc ls (.double x :: st))) P := by
  subst hp
  exact own_via (fun t_ k_ => XS.dnegS h hx rfl hd rfl rfl k_) hr
theorem s_dcmp (h : At T m c below) (hx : tb.exec = Jvm.exec) {o : CmpOp} {x y : UInt64} (hd : decode c.code pc = .ok (.dcmp o, 1))  (hp : pc + 1 = pc') (hr : Ends tb e below (T.setTop (mkF m pc' ls (.int (cmpValue (FP.dcmp x y) o) :: st))) P) : Ends tb e below (T.setTop (mkF m pc ls (.double y :: .double x :: st))) P := by
  subst hp
  exact own_via (fun t_ k_ => XS.dcmpS h hx rfl hd rfl rfl k_) hr
theorem s_iinc (h : At T m c below) (hx : tb.exec = Jvm.exec) {k : Nat} {i : Int} {x v : Int32} (hd : decode c.code pc = .ok (.iinc k i, 3)) (hv : Int32.ofInt i = v) (hl : ls[k]? = some (.val (.int x))) (hl' : storeLocals ls k (.int (x + v)) = some l') (hp : pc + 3 = pc') (hr : Ends tb e below (T.setTop (mkF m pc' l' st)) P) : Ends tb e below (T.setTop (mkF m pc ls st)) P := by
  subst hp hv
  exact own_via (fun t_ k_ => XS.iinc h hx rfl hd hl hl' k_) hr
theorem s_dup (h : At T m c below) (hx : tb.exec = Jvm.exec) {x : Value} (hd : decode c.code pc = .ok (.dup, 1)) (hc : x.category = 1) (hp : pc + 1 = pc') (hr : Ends tb e below (T.setTop (mkF m pc' ls (x :: x :: st))) P) : Ends tb e below (T.setTop (mkF m pc ls (x :: st))) P := by
  subst hp
  exact own_via (fun t_ k_ => XS.dup h hx rfl hd rfl hc k_) hr
theorem s_dupX1 (h : At T m c below) (hx : tb.exec = Jvm.exec) {x y : Value} (hd : decode c.code pc = .ok (.dup_x1, 1)) (hc : x.category = 1) (hc' : y.category = 1) (hp : pc + 1 = pc') (hr : Ends tb e below (T.setTop (mkF m pc' ls (x :: y :: x :: st))) P) : Ends tb e below (T.setTop (mkF m pc ls (x :: y :: st))) P := by
  subst hp
  exact own_via (fun t_ k_ => XS.dupX1 h hx rfl hd rfl hc hc' k_) hr
theorem s_dup2 (h : At T m c below) (hx : tb.exec = Jvm.exec) {x y : Value} (hd : decode c.code pc = .ok (.dup2, 1)) (hc : x.category = 1) (hc' : y.category = 1) (hp : pc + 1 = pc') (hr : Ends tb e below (T.setTop (mkF m pc' ls (x :: y :: x :: y :: st))) P) : Ends tb e below (T.setTop (mkF m pc ls (x :: y :: st))) P := by
  subst hp
  exact own_via (fun t_ k_ => XT.dup2 h hx rfl hd rfl hc hc' k_) hr
theorem s_dup2L (h : At T m c below) (hx : tb.exec = Jvm.exec) {x : Int64} (hd : decode c.code pc = .ok (.dup2, 1))  (hp : pc + 1 = pc') (hr : Ends tb e below (T.setTop (mkF m pc' ls (.long x :: .long x :: st))) P) : Ends tb e below (T.setTop (mkF m pc ls (.long x :: st))) P := by
  subst hp
  exact own_via (fun t_ k_ => XT.dup2L h hx rfl hd rfl k_) hr
theorem s_pop (h : At T m c below) (hx : tb.exec = Jvm.exec) {x : Value} (hd : decode c.code pc = .ok (.pop, 1)) (hc : x.category = 1) (hp : pc + 1 = pc') (hr : Ends tb e below (T.setTop (mkF m pc' ls st)) P) : Ends tb e below (T.setTop (mkF m pc ls (x :: st))) P := by
  subst hp
  exact own_via (fun t_ k_ => XS.pop h hx rfl hd rfl hc k_) hr
theorem own_pop2L {target : State} {g : JFrame} (h : At T m c below) (hx : tb.exec = Jvm.exec) (hg : g.method = m) {x : Int64} {rest : List Value} (hd : decode c.code g.pc = .ok (.pop2, 1)) (hs : g.stack = .long x :: rest)
    (hr : Steps tb e below (T.setTop { g with pc := g.pc + 1, stack := rest }) target) : Steps tb e below (T.setTop g) target := by
  subst hg
  jvm_step h [h.top, hx, hd, hs, Value.category]
  exact hr
theorem s_pop2L (h : At T m c below) (hx : tb.exec = Jvm.exec) {x : Int64} (hd : decode c.code pc = .ok (.pop2, 1))  (hp : pc + 1 = pc') (hr : Ends tb e below (T.setTop (mkF m pc' ls st)) P) : Ends tb e below (T.setTop (mkF m pc ls (.long x :: st))) P := by
  subst hp
  exact own_via (fun t_ k_ => own_pop2L h hx rfl hd rfl k_) hr
theorem s_goto (h : At T m c below) (hx : tb.exec = Jvm.exec)  {o : Int} (hd : decode c.code pc = .ok (.goto o, 3))  (ho : 0 ≤ (pc : Int) + o) (hp : ((pc : Int) + o).toNat = pc') (hr : Ends tb e below (T.setTop (mkF m pc' ls st)) P) : Ends tb e below (T.setTop (mkF m pc ls st)) P := own_via (fun t_ k_ => XS.goto h hx rfl rfl hd ho hp k_) hr
theorem s_ifYes (h : At T m c below) (hx : tb.exec = Jvm.exec) {cd : ClassFile.Cond} {x : Int32} {o : Int} (hd : decode c.code pc = .ok (.ifCond cd o, 3)) (hc : ifCond.holds cd x = true) (ho : 0 ≤ (pc : Int) + o) (hp : ((pc : Int) + o).toNat = pc') (hr : Ends tb e below (T.setTop (mkF m pc' ls st)) P) : Ends tb e below (T.setTop (mkF m pc ls (.int x :: st))) P := own_via (fun t_ k_ => XS.ifYes h hx rfl rfl hd rfl hc ho hp k_) hr
theorem s_ifNo (h : At T m c below) (hx : tb.exec = Jvm.exec) {cd : ClassFile.Cond} {x : Int32} {o : Int} (hd : decode c.code pc = .ok (.ifCond cd o, 3)) (hc : ifCond.holds cd x = false) (hp : pc + 3 = pc') (hr : Ends tb e below (T.setTop (mkF m pc' ls st)) P) : Ends tb e below (T.setTop (mkF m pc ls (.int x :: st))) P := by
  subst hp
  exact own_via (fun t_ k_ => XS.ifNo h hx rfl hd rfl hc k_) hr
theorem s_icmpYes (h : At T m c below) (hx : tb.exec = Jvm.exec) {cd : ClassFile.Cond} {x y : Int32} {o : Int} (hd : decode c.code pc = .ok (.if_icmp cd o, 3)) (hc : if_icmp.holds cd x y = true) (ho : 0 ≤ (pc : Int) + o) (hp : ((pc : Int) + o).toNat = pc') (hr : Ends tb e below (T.setTop (mkF m pc' ls st)) P) : Ends tb e below (T.setTop (mkF m pc ls (.int y :: .int x :: st))) P := own_via (fun t_ k_ => XS.icmpYes h hx rfl rfl hd rfl hc ho hp k_) hr
theorem s_icmpNo (h : At T m c below) (hx : tb.exec = Jvm.exec) {cd : ClassFile.Cond} {x y : Int32} {o : Int} (hd : decode c.code pc = .ok (.if_icmp cd o, 3)) (hc : if_icmp.holds cd x y = false) (hp : pc + 3 = pc') (hr : Ends tb e below (T.setTop (mkF m pc' ls st)) P) : Ends tb e below (T.setTop (mkF m pc ls (.int y :: .int x :: st))) P := by
  subst hp
  exact own_via (fun t_ k_ => XS.icmpNo h hx rfl hd rfl hc k_) hr
theorem s_ifnullYes (h : At T m c below) (hx : tb.exec = Jvm.exec)  {o : Int} (hd : decode c.code pc = .ok (.ifnull o, 3))  (ho : 0 ≤ (pc : Int) + o) (hp : ((pc : Int) + o).toNat = pc') (hr : Ends tb e below (T.setTop (mkF m pc' ls st)) P) : Ends tb e below (T.setTop (mkF m pc ls (.null :: st))) P := own_via (fun t_ k_ => XS.ifnullYes h hx rfl rfl hd rfl ho hp k_) hr
theorem s_ifnullNo (h : At T m c below) (hx : tb.exec = Jvm.exec) {b : Addr} {o : Int} (hd : decode c.code pc = .ok (.ifnull o, 3))  (hp : pc + 3 = pc') (hr : Ends tb e below (T.setTop (mkF m pc' ls st)) P) : Ends tb e below (T.setTop (mkF m pc ls (.ref b :: st))) P := by
  subst hp
  exact own_via (fun t_ k_ => XS.ifnullNo h hx rfl hd rfl k_) hr
theorem s_ifnonnullYes (h : At T m c below) (hx : tb.exec = Jvm.exec) {b : Addr} {o : Int} (hd : decode c.code pc = .ok (.ifnonnull o, 3))  (ho : 0 ≤ (pc : Int) + o) (hp : ((pc : Int) + o).toNat = pc') (hr : Ends tb e below (T.setTop (mkF m pc' ls st)) P) : Ends tb e below (T.setTop (mkF m pc ls (.ref b :: st))) P := own_via (fun t_ k_ => XS.ifnonnullYes h hx rfl rfl hd rfl ho hp k_) hr
theorem s_ifnonnullNo (h : At T m c below) (hx : tb.exec = Jvm.exec)  {o : Int} (hd : decode c.code pc = .ok (.ifnonnull o, 3))  (hp : pc + 3 = pc') (hr : Ends tb e below (T.setTop (mkF m pc' ls st)) P) : Ends tb e below (T.setTop (mkF m pc ls (.null :: st))) P := by
  subst hp
  exact own_via (fun t_ k_ => XS.ifnonnullNo h hx rfl hd rfl k_) hr
theorem s_tswIn (h : At T m c below) (hx : tb.exec = Jvm.exec) {dflt low high : Int} {offs : Array Int} {len : Nat} {o : Int} {i : Int32} (hd : decode c.code pc = .ok (.tableswitch dflt low high offs, len)) (hin : ¬ (i.toInt < low ∨ i.toInt > high)) (hoff : offs[(i.toInt - low).toNat]? = some o) (ho : 0 ≤ (pc : Int) + o) (hp : ((pc : Int) + o).toNat = pc') (hr : Ends tb e below (T.setTop (mkF m pc' ls st)) P) : Ends tb e below (T.setTop (mkF m pc ls (.int i :: st))) P := own_via (fun t_ k_ => XS.tswIn h hx rfl rfl hd rfl hin hoff ho hp k_) hr
theorem s_tswOut (h : At T m c below) (hx : tb.exec = Jvm.exec) {dflt low high : Int} {offs : Array Int} {len : Nat} {i : Int32} (hd : decode c.code pc = .ok (.tableswitch dflt low high offs, len)) (hout : i.toInt < low ∨ i.toInt > high) (ho : 0 ≤ (pc : Int) + dflt) (hp : ((pc : Int) + dflt).toNat = pc') (hr : Ends tb e below (T.setTop (mkF m pc' ls st)) P) : Ends tb e below (T.setTop (mkF m pc ls (.int i :: st))) P := own_via (fun t_ k_ => XS.tswOut h hx rfl rfl hd rfl hout ho hp k_) hr
end OwnSteps
section OwnLaws
variable {p : Program} {l : Launch} {e : Env} {R : Room} {s : State} {m : MethodId} {args : Array Value} {below : List Frame} {meth : Method} {c : Code} {T : State} {locs : List Loc} {cells slots : Nat} {Z : State} {a0 : Array Value} {h : Heap} {P : State → Outcome → Prop} {pc pc' : Nat} {ls : Array Slot} {st : List Value}
theorem s_getF (X : Stand p l e R s m args below meth c T locs cells slots) (hx : p.tables.exec = Jvm.exec) (hZ : Z.Warmed39 s.vm) {own R0 O n d host : String} {index : Nat} (hown : s.vm.findClass own = some m.cls) (w : (Jvm.Cond.fieldLink own index R0 n d).before a0 Z = true ∨ (Jvm.Cond.fieldLinkNest own index R0 n d host).before a0 Z = true) (via : Via Z R0 O n d) (eT : T.heap = h) {a : Addr} {v : Value} (F : Fld Z h a O n d v) (hd : decode c.code pc = .ok (.getfield index, 3)) (hp : pc + 3 = pc') (k : ∀ T', Stand p l e R s m args below meth c T' locs cells slots → T'.heap = h → Ends p.tables e below (T'.setTop (mkF m pc' ls (v :: st))) P) : Ends p.tables e below (T.setTop (mkF m pc ls (.ref a :: st))) P := by
  subst hp
  obtain ⟨T', X', e', s'⟩ := getF X hx hZ hown w via eT F (g := mkF m pc ls (.ref a :: st)) rfl rfl hd
  exact own_via s' (k T' X' e')
theorem s_getS (X : Stand p l e R s m args below meth c T locs cells slots) (hx : p.tables.exec = Jvm.exec) (hZ : Z.Warmed39 s.vm) {own R0 O n d host : String} {index : Nat} (hown : s.vm.findClass own = some m.cls) (w : (Jvm.Cond.fieldLink own index R0 n d).before a0 Z = true ∨ (Jvm.Cond.fieldLinkNest own index R0 n d host).before a0 Z = true) (via : Via Z R0 O n d) (eT : T.heap = h) {v : Value} (F : Sta Z h O n d v) (hd : decode c.code pc = .ok (.getstatic index, 3)) (hp : pc + 3 = pc') (k : ∀ T', Stand p l e R s m args below meth c T' locs cells slots → T'.heap = h → Ends p.tables e below (T'.setTop (mkF m pc' ls (v :: st))) P) : Ends p.tables e below (T.setTop (mkF m pc ls st)) P := by
  subst hp
  obtain ⟨T', X', e', s'⟩ := getS2 X hx hZ hown w via eT F (g := mkF m pc ls st) rfl hd
  exact own_via s' (k T' X' e')
theorem s_putF (X : Stand p l e R s m args below meth c T locs cells slots) (hx : p.tables.exec = Jvm.exec) (hZ : Z.Warmed39 s.vm) {own R0 O n d host : String} {index : Nat} (hown : s.vm.findClass own = some m.cls) (w : (Jvm.Cond.fieldLink own index R0 n d).before a0 Z = true ∨ (Jvm.Cond.fieldLinkNest own index R0 n d host).before a0 Z = true) (via : Via Z R0 O n d) (eT : T.heap = h) {C : String} {kk : Nat} {ty : FieldType} {a : Addr} {v old : Value} (F : Fld Z h a O n d old) (E : Exa Z h a C) (L : (Jvm.Cond.lays C O n d).before a0 Z = true ∨ ((Jvm.Cond.laysFinal C O n d).before a0 Z = true ∧ own = O ∧ meth.name = "<init>")) (wi : (Jvm.Cond.instantiable C kk).before a0 Z = true) (hty : parseFieldDescriptor d = some ty) (hn : narrow ty v = v) (hf : fits ty v = true) (hd : decode c.code pc = .ok (.putfield index, 3)) (hp : pc + 3 = pc') (k : ∀ T' h', Stand p l e R s m args below meth c T' (locs ++ [⟨a, Jvm.RoadKit.slotOf Z O n d⟩]) cells slots → T'.heap = h' → Wr h h' a (Jvm.RoadKit.slotOf Z O n d) v → Ends p.tables e below (T'.setTop (mkF m pc' ls st)) P) : Ends p.tables e below (T.setTop (mkF m pc ls (v :: .ref a :: st))) P := by
  subst hp
  obtain ⟨T', h', X', e', W, s'⟩ := putF X hx hZ hown w via eT F E L wi hty hn hf (g := mkF m pc ls (v :: .ref a :: st)) rfl rfl hd
  exact own_via s' (k T' h' X' e' W)
theorem s_putFN (X : Stand p l e R s m args below meth c T locs cells slots) (hx : p.tables.exec = Jvm.exec) (hZ : Z.Warmed39 s.vm) {own R0 O n d : String} {index : Nat} (hown : s.vm.findClass own = some m.cls) (w : (Jvm.Cond.fieldLink own index R0 n d).before a0 Z = true) (via : Via Z R0 O n d) (eT : T.heap = h) {C : String} {kk : Nat} {ty : FieldType} {a : Addr} {v v' old : Value} (F : Fld Z h a O n d old) (E : Exa Z h a C) (L : (Jvm.Cond.lays C O n d).before a0 Z = true ∨ ((Jvm.Cond.laysFinal C O n d).before a0 Z = true ∧ own = O ∧ meth.name = "<init>")) (wi : (Jvm.Cond.instantiable C kk).before a0 Z = true) (hty : parseFieldDescriptor d = some ty) (hn : narrow ty v = v') (hf : fits ty v' = true) (hd : decode c.code pc = .ok (.putfield index, 3)) (hp : pc + 3 = pc') (k : ∀ T' h', Stand p l e R s m args below meth c T' (locs ++ [⟨a, Jvm.RoadKit.slotOf Z O n d⟩]) cells slots → T'.heap = h' → Wr h h' a (Jvm.RoadKit.slotOf Z O n d) v' → Ends p.tables e below (T'.setTop (mkF m pc' ls st)) P) : Ends p.tables e below (T.setTop (mkF m pc ls (v :: .ref a :: st))) P := by
  subst hp
  obtain ⟨T', h', X', e', W, s'⟩ := putFN X hx hZ hown w via eT F E L wi hty hn hf (g := mkF m pc ls (v :: .ref a :: st)) rfl rfl hd
  exact own_via s' (k T' h' X' e' W)
theorem s_newO (X : Stand p l e R s m args below meth c T locs cells slots) (hx : p.tables.exec = Jvm.exec) (hZ : Z.Warmed39 s.vm) {own C : String} {index n : Nat} (hown : s.vm.findClass own = some m.cls) (w : (Jvm.Cond.classLink own index C).before a0 Z = true) (wi : (Jvm.Cond.instantiable C n).before a0 Z = true) (wz : (Jvm.Cond.initialized C).before a0 Z = true) (eT : T.heap = h) (hd : decode c.code pc = .ok (.new index, 3)) (hc : cells + 1 ≤ R.cells) (hl : slots + n ≤ R.slots) (hp : pc + 3 = pc') (k : ∀ T' h', Stand p l e R s m args below meth c T' locs (cells + 1) (slots + n) → T'.heap = h' → Ext h h' → ∀ b, b = h.size → Exa Z h' b C → (∀ {O nm d : String} {ty : FieldType}, Laid Z a0 C O nm d → parseFieldDescriptor d = some ty → Fld Z h' b O nm d (defaultValue ty)) → Ends p.tables e below (T'.setTop (mkF m pc' ls (.ref b :: st))) P) : Ends p.tables e below (T.setTop (mkF m pc ls st)) P := by
  subst hp
  obtain ⟨T', h', X', e', E, A, D, -, s'⟩ := newO X hx hZ hown w wi wz eT (g := mkF m pc ls st) rfl hd hc hl
  exact own_via s' (k T' h' X' e' E _ rfl A D)
theorem s_newP (X : Stand p l e R s m args below meth c T locs cells slots) (hx : p.tables.exec = Jvm.exec) (hZ : Z.Warmed39 s.vm) {aty : ArrayType} (w : (Jvm.Cond.arrayClass (newarray.typeOf aty)).before a0 Z = true) (eT : T.heap = h) (hd : decode c.code pc = .ok (.newarray aty, 2)) {n : Int32} (hn : ¬ n < 0) {cap : Nat} (hcap : n.toNatClampNeg ≤ cap) (hb : cap * 8 ≤ 536870912) (hc : cells + 1 ≤ R.cells) (hl : slots + cap ≤ R.slots) (hp : pc + 2 = pc') (k : ∀ T' h', Stand p l e R s m args below meth c T' locs (cells + 1) (slots + cap) → T'.heap = h' → ∀ cA, Ext h h' → ∀ b, b = h.size → Arr Z h' b (newA cA (newarray.typeOf aty) n) (newarray.typeOf aty) → Ends p.tables e below (T'.setTop (mkF m pc' ls (.ref b :: st))) P) : Ends p.tables e below (T.setTop (mkF m pc ls (.int n :: st))) P := by
  subst hp
  obtain ⟨T', h', cA, X', e', E, A, s'⟩ := newP X hx hZ w eT (g := mkF m pc ls (.int n :: st)) rfl hd rfl hn hcap hb hc hl
  exact own_via s' (k T' h' X' e' cA E _ rfl A)
theorem s_newPE (X : Stand p l e R s m args below meth c T locs cells slots) (hx : p.tables.exec = Jvm.exec) (hZ : Z.Warmed39 s.vm) {aty : ArrayType} (w : (Jvm.Cond.arrayClass (newarray.typeOf aty)).before a0 Z = true) (eT : T.heap = h) (hd : decode c.code pc = .ok (.newarray aty, 2)) {n : Int32} (hn : ¬ n < 0) {cap : Nat} (hcap : n.toNatClampNeg ≤ cap) (hb : cap * 8 ≤ 536870912) (hc : cells + 1 ≤ R.cells) (hl : slots + cap ≤ R.slots) {ad : String} (had : "[" ++ (newarray.typeOf aty).toString = ad) (hp : pc + 2 = pc') (k : ∀ T' h', Stand p l e R s m args below meth c T' locs (cells + 1) (slots + cap) → T'.heap = h' → ∀ cA, Ext h h' → ∀ b, b = h.size → Arr Z h' b (newA cA (newarray.typeOf aty) n) (newarray.typeOf aty) → Exa Z h' b ad → Ends p.tables e below (T'.setTop (mkF m pc' ls (.ref b :: st))) P) : Ends p.tables e below (T.setTop (mkF m pc ls (.int n :: st))) P := by
  subst hp
  obtain ⟨T', h', cA, X', e', E, A, Ex, s'⟩ := newPE X hx hZ w eT (g := mkF m pc ls (.int n :: st)) rfl hd rfl hn hcap hb hc hl had
  exact own_via s' (k T' h' X' e' cA E _ rfl A Ex)
theorem s_newR (X : Stand p l e R s m args below meth c T locs cells slots) (hx : p.tables.exec = Jvm.exec) (hZ : Z.Warmed39 s.vm) {own C : String} {index : Nat} (hown : s.vm.findClass own = some m.cls) (w1 : (Jvm.Cond.classLink own index C).before a0 Z = true) (w2 : (Jvm.Cond.arrayOver (.object C)).before a0 Z = true) (eT : T.heap = h) (hd : decode c.code pc = .ok (.anewarray index, 3)) {n : Int32} (hn : ¬ n < 0) {cap : Nat} (hcap : n.toNatClampNeg ≤ cap) (hb : cap * 8 ≤ 536870912) (hc : cells + 1 ≤ R.cells) (hl : slots + cap ≤ R.slots) (hp : pc + 3 = pc') (k : ∀ T' h', Stand p l e R s m args below meth c T' locs (cells + 1) (slots + cap) → T'.heap = h' → ∀ cA, Ext h h' → ∀ b, b = h.size → Arr Z h' b (newA cA (.object C) n) (.object C) → Ends p.tables e below (T'.setTop (mkF m pc' ls (.ref b :: st))) P) : Ends p.tables e below (T.setTop (mkF m pc ls (.int n :: st))) P := by
  subst hp
  obtain ⟨T', h', cA, X', e', E, A, -, s'⟩ := newR X hx hZ hown w1 w2 eT (g := mkF m pc ls (.int n :: st)) rfl hd rfl hn hcap hb hc hl
  exact own_via s' (k T' h' X' e' cA E _ rfl A)
theorem s_stI (X : Stand p l e R s m args below meth c T locs cells slots) (hx : p.tables.exec = Jvm.exec) (hZ : Z.Warmed39 s.vm) (eT : T.heap = h) {a : Addr} {cl : Cell} (A : Arr Z h a cl .int) {j : Int32} {x : Int32} (hj : ¬ (j < 0 ∨ cl.slots.size ≤ j.toNatClampNeg)) (hd : decode c.code pc = .ok (.iastore, 1)) (hp : pc + 1 = pc') (k : ∀ T' h', Stand p l e R s m args below meth c T' (locs ++ [⟨a, j.toNatClampNeg⟩]) cells slots → T'.heap = h' → Wr h h' a j.toNatClampNeg (.int x) → Ends p.tables e below (T'.setTop (mkF m pc' ls st)) P) : Ends p.tables e below (T.setTop (mkF m pc ls (.int x :: .int j :: .ref a :: st))) P := by
  subst hp
  obtain ⟨T', h', X', e', W, s'⟩ := stI X hx hZ eT A (j := j) hj (g := mkF m pc ls (.int x :: .int j :: .ref a :: st)) rfl rfl hd
  exact own_via s' (k T' h' X' e' W)
theorem s_stJ (X : Stand p l e R s m args below meth c T locs cells slots) (hx : p.tables.exec = Jvm.exec) (hZ : Z.Warmed39 s.vm) (eT : T.heap = h) {a : Addr} {cl : Cell} (A : Arr Z h a cl .long) {j : Int32} {x : Int64} (hj : ¬ (j < 0 ∨ cl.slots.size ≤ j.toNatClampNeg)) (hd : decode c.code pc = .ok (.lastore, 1)) (hp : pc + 1 = pc') (k : ∀ T' h', Stand p l e R s m args below meth c T' (locs ++ [⟨a, j.toNatClampNeg⟩]) cells slots → T'.heap = h' → Wr h h' a j.toNatClampNeg (.long x) → Ends p.tables e below (T'.setTop (mkF m pc' ls st)) P) : Ends p.tables e below (T.setTop (mkF m pc ls (.long x :: .int j :: .ref a :: st))) P := by
  subst hp
  obtain ⟨T', h', X', e', W, s'⟩ := stJ X hx hZ eT A (j := j) hj (g := mkF m pc ls (.long x :: .int j :: .ref a :: st)) rfl rfl hd
  exact own_via s' (k T' h' X' e' W)
theorem s_stC (X : Stand p l e R s m args below meth c T locs cells slots) (hx : p.tables.exec = Jvm.exec) (hZ : Z.Warmed39 s.vm) (eT : T.heap = h) {a : Addr} {cl : Cell} (A : Arr Z h a cl .char) {j : Int32} {x : Int32} (hj : ¬ (j < 0 ∨ cl.slots.size ≤ j.toNatClampNeg)) (hd : decode c.code pc = .ok (.castore, 1)) (hp : pc + 1 = pc') (k : ∀ T' h', Stand p l e R s m args below meth c T' (locs ++ [⟨a, j.toNatClampNeg⟩]) cells slots → T'.heap = h' → Wr h h' a j.toNatClampNeg (.int (nar .char x)) → Ends p.tables e below (T'.setTop (mkF m pc' ls st)) P) : Ends p.tables e below (T.setTop (mkF m pc ls (.int x :: .int j :: .ref a :: st))) P := by
  subst hp
  obtain ⟨T', h', X', e', W, s'⟩ := stC X hx hZ eT A (j := j) hj (g := mkF m pc ls (.int x :: .int j :: .ref a :: st)) rfl rfl hd
  exact own_via s' (k T' h' X' e' W)
theorem s_stB (X : Stand p l e R s m args below meth c T locs cells slots) (hx : p.tables.exec = Jvm.exec) (hZ : Z.Warmed39 s.vm) (eT : T.heap = h) {a : Addr} {cl : Cell} (A : Arr Z h a cl .byte) {j : Int32} {x : Int32} (hj : ¬ (j < 0 ∨ cl.slots.size ≤ j.toNatClampNeg)) (hd : decode c.code pc = .ok (.bastore, 1)) (hp : pc + 1 = pc') (k : ∀ T' h', Stand p l e R s m args below meth c T' (locs ++ [⟨a, j.toNatClampNeg⟩]) cells slots → T'.heap = h' → Wr h h' a j.toNatClampNeg (.int (nar .byte x)) → Ends p.tables e below (T'.setTop (mkF m pc' ls st)) P) : Ends p.tables e below (T.setTop (mkF m pc ls (.int x :: .int j :: .ref a :: st))) P := by
  subst hp
  obtain ⟨T', h', X', e', W, s'⟩ := stB X hx hZ eT A (j := j) hj (g := mkF m pc ls (.int x :: .int j :: .ref a :: st)) rfl rfl hd
  exact own_via s' (k T' h' X' e' W)
theorem s_stN (X : Stand p l e R s m args below meth c T locs cells slots) (hx : p.tables.exec = Jvm.exec) (hZ : Z.Warmed39 s.vm) (eT : T.heap = h) {a : Addr} {cl : Cell} {ty : FieldType} (A : Arr Z h a cl ty) (hr : ty.isReference = true) {j : Int32} (hj : ¬ (j < 0 ∨ cl.slots.size ≤ j.toNatClampNeg)) (hd : decode c.code pc = .ok (.aastore, 1)) (hp : pc + 1 = pc') (k : ∀ T' h', Stand p l e R s m args below meth c T' (locs ++ [⟨a, j.toNatClampNeg⟩]) cells slots → T'.heap = h' → Wr h h' a j.toNatClampNeg .null → Ends p.tables e below (T'.setTop (mkF m pc' ls st)) P) : Ends p.tables e below (T.setTop (mkF m pc ls (.null :: .int j :: .ref a :: st))) P := by
  subst hp
  obtain ⟨T', h', X', e', W, s'⟩ := stR X hx hZ eT A (j := j) hj hr (Or.inl rfl) (g := mkF m pc ls (.null :: .int j :: .ref a :: st)) rfl rfl hd
  exact own_via s' (k T' h' X' e' W)
theorem s_iaload (X : Stand p l e R s m args below meth c T locs cells slots) (hx : p.tables.exec = Jvm.exec) (hZ : Z.Warmed39 s.vm) (eT : T.heap = h) {a : Addr} {k : ClassId} {z : Int32} {vs : List Value} {dv v : Value} {j : Int32} (F : Arv Z h a k .int z vs dv) (hj : ¬ j < 0 ∧ j < z) (hv : vs.getD j.toNatClampNeg dv = v) (hd : decode c.code pc = .ok (.iaload, 1)) (hp : pc + 1 = pc') (hr : Ends p.tables e below (T.setTop (mkF m pc' ls (v :: st))) P) : Ends p.tables e below (T.setTop (mkF m pc ls (.int j :: .ref a :: st))) P := by
  subst hp
  obtain ⟨cl, A, -, S, M, H, -⟩ := F
  have hin := inb_of S hj
  exact own_via (X.iaload hx (j := j) (v := v) (by rw [eT]; exact A.1) (State.isArrayOf_alike hZ.alike A.2.1) A.2.2 hin (H.at hin hv) (g := mkF m pc ls (.int j :: .ref a :: st)) rfl rfl hd) hr
theorem s_laload (X : Stand p l e R s m args below meth c T locs cells slots) (hx : p.tables.exec = Jvm.exec) (hZ : Z.Warmed39 s.vm) (eT : T.heap = h) {a : Addr} {k : ClassId} {z : Int32} {vs : List Value} {dv v : Value} {j : Int32} (F : Arv Z h a k .long z vs dv) (hj : ¬ j < 0 ∧ j < z) (hv : vs.getD j.toNatClampNeg dv = v) (hd : decode c.code pc = .ok (.laload, 1)) (hp : pc + 1 = pc') (hr : Ends p.tables e below (T.setTop (mkF m pc' ls (v :: st))) P) : Ends p.tables e below (T.setTop (mkF m pc ls (.int j :: .ref a :: st))) P := by
  subst hp
  obtain ⟨cl, A, -, S, M, H, -⟩ := F
  have hin := inb_of S hj
  exact own_via (X.laload hx (j := j) (v := v) (by rw [eT]; exact A.1) (State.isArrayOf_alike hZ.alike A.2.1) A.2.2 hin (H.at hin hv) (g := mkF m pc ls (.int j :: .ref a :: st)) rfl rfl hd) hr
theorem s_caload (X : Stand p l e R s m args below meth c T locs cells slots) (hx : p.tables.exec = Jvm.exec) (hZ : Z.Warmed39 s.vm) (eT : T.heap = h) {a : Addr} {k : ClassId} {z : Int32} {vs : List Value} {dv v : Value} {j : Int32} (F : Arv Z h a k .char z vs dv) (hj : ¬ j < 0 ∧ j < z) (hv : vs.getD j.toNatClampNeg dv = v) (hd : decode c.code pc = .ok (.caload, 1)) (hp : pc + 1 = pc') (hr : Ends p.tables e below (T.setTop (mkF m pc' ls (v :: st))) P) : Ends p.tables e below (T.setTop (mkF m pc ls (.int j :: .ref a :: st))) P := by
  subst hp
  obtain ⟨cl, A, -, S, M, H, -⟩ := F
  have hin := inb_of S hj
  exact own_via (X.caload hx (j := j) (v := v) (by rw [eT]; exact A.1) (State.isArrayOf_alike hZ.alike A.2.1) A.2.2 hin (H.at hin hv) (g := mkF m pc ls (.int j :: .ref a :: st)) rfl rfl hd) hr
theorem s_baload (X : Stand p l e R s m args below meth c T locs cells slots) (hx : p.tables.exec = Jvm.exec) (hZ : Z.Warmed39 s.vm) (eT : T.heap = h) {a : Addr} {k : ClassId} {z : Int32} {vs : List Value} {dv v : Value} {j : Int32} (F : Arv Z h a k .byte z vs dv) (hj : ¬ j < 0 ∧ j < z) (hv : vs.getD j.toNatClampNeg dv = v) (hd : decode c.code pc = .ok (.baload, 1)) (hp : pc + 1 = pc') (hr : Ends p.tables e below (T.setTop (mkF m pc' ls (v :: st))) P) : Ends p.tables e below (T.setTop (mkF m pc ls (.int j :: .ref a :: st))) P := by
  subst hp
  obtain ⟨cl, A, -, S, M, H, -⟩ := F
  have hin := inb_of S hj
  exact own_via (X.baloadBytes hx (j := j) (v := v) (by rw [eT]; exact A.1) (State.isArrayOf_alike hZ.alike A.2.1) A.2.2 hin (H.at hin hv) (g := mkF m pc ls (.int j :: .ref a :: st)) rfl rfl hd) hr
theorem s_arraylength (X : Stand p l e R s m args below meth c T locs cells slots) (hx : p.tables.exec = Jvm.exec) (hZ : Z.Warmed39 s.vm) (eT : T.heap = h) {a : Addr} {k : ClassId} {ty : FieldType} {z : Int32} {vs : List Value} {dv : Value} (F : Arv Z h a k ty z vs dv) (hd : decode c.code pc = .ok (.arraylength, 1)) (hp : pc + 1 = pc') (hr : Ends p.tables e below (T.setTop (mkF m pc' ls (.int z :: st))) P) : Ends p.tables e below (T.setTop (mkF m pc ls (.ref a :: st))) P := by
  subst hp
  obtain ⟨cl, A, -, S, M, H, -⟩ := F
  refine own_via (X.arraylength hx (by rw [eT]; exact A.1) (State.isArrayOf_alike hZ.alike A.2.1) (g := mkF m pc ls (.ref a :: st)) rfl rfl hd) ?_
  rw [len_of S M]
  exact hr
theorem own_set {a : Addr} {k : ClassId} {ty : FieldType} {z : Int32} {vs : List Value} {dv v : Value} {j : Int32} {cl : Cell} {h' : Heap} (F : ∃ c : Cell, c = cl ∧ Arr Z h a c ty ∧ c.cls = k ∧ c.slots.size = z.toNatClampNeg ∧ ¬ z < 0 ∧ Has c vs dv ∧ ∀ i, i < c.slots.size → fits ty (vs.getD i dv) = true) (hv : fits ty v = true) (W : Wr h h' a j.toNatClampNeg v) (i : Nat) (hj : j.toNatClampNeg = i) (hi : i < vs.length) : Arv Z h' a k ty z (vs.set i v) dv := by
  obtain ⟨c, rfl, A, q1, S, M, H, G⟩ := F
  exact Arv.set A q1 S M H G hv W i hj hi
theorem s_putI (X : Stand p l e R s m args below meth c T locs cells slots) (hx : p.tables.exec = Jvm.exec) (hZ : Z.Warmed39 s.vm) (eT : T.heap = h) {a : Addr} {k : ClassId} {z : Int32} {vs : List Value} {dv : Value} {j : Int32} {x : Int32} (F : Arv Z h a k .int z vs dv) (hj : ¬ j < 0 ∧ j < z) (i : Nat) (hi : j.toNatClampNeg = i) (hl : i < vs.length) (hd : decode c.code pc = .ok (.iastore, 1)) (hp : pc + 1 = pc') (kk : ∀ T' h', Stand p l e R s m args below meth c T' (locs ++ [⟨a, j.toNatClampNeg⟩]) cells slots → T'.heap = h' → Wr h h' a j.toNatClampNeg (.int x) → Arv Z h' a k .int z (vs.set i (.int x)) dv → Ends p.tables e below (T'.setTop (mkF m pc' ls st)) P) : Ends p.tables e below (T.setTop (mkF m pc ls (.int x :: .int j :: .ref a :: st))) P := by
  obtain ⟨cl, A, q1, S, M, H, G⟩ := F
  exact s_stI X hx hZ eT A (inb_of S hj) hd hp fun T' h' X' e' W => kk T' h' X' e' W (Arv.set A q1 S M H G rfl W i hi hl)
theorem s_putJ (X : Stand p l e R s m args below meth c T locs cells slots) (hx : p.tables.exec = Jvm.exec) (hZ : Z.Warmed39 s.vm) (eT : T.heap = h) {a : Addr} {k : ClassId} {z : Int32} {vs : List Value} {dv : Value} {j : Int32} {x : Int64} (F : Arv Z h a k .long z vs dv) (hj : ¬ j < 0 ∧ j < z) (i : Nat) (hi : j.toNatClampNeg = i) (hl : i < vs.length) (hd : decode c.code pc = .ok (.lastore, 1)) (hp : pc + 1 = pc') (kk : ∀ T' h', Stand p l e R s m args below meth c T' (locs ++ [⟨a, j.toNatClampNeg⟩]) cells slots → T'.heap = h' → Wr h h' a j.toNatClampNeg (.long x) → Arv Z h' a k .long z (vs.set i (.long x)) dv → Ends p.tables e below (T'.setTop (mkF m pc' ls st)) P) : Ends p.tables e below (T.setTop (mkF m pc ls (.long x :: .int j :: .ref a :: st))) P := by
  obtain ⟨cl, A, q1, S, M, H, G⟩ := F
  exact s_stJ X hx hZ eT A (inb_of S hj) hd hp fun T' h' X' e' W => kk T' h' X' e' W (Arv.set A q1 S M H G rfl W i hi hl)
theorem s_putC (X : Stand p l e R s m args below meth c T locs cells slots) (hx : p.tables.exec = Jvm.exec) (hZ : Z.Warmed39 s.vm) (eT : T.heap = h) {a : Addr} {k : ClassId} {z : Int32} {vs : List Value} {dv : Value} {j : Int32} {x : Int32} (F : Arv Z h a k .char z vs dv) (hj : ¬ j < 0 ∧ j < z) (i : Nat) (hi : j.toNatClampNeg = i) (hl : i < vs.length) (hd : decode c.code pc = .ok (.castore, 1)) (hp : pc + 1 = pc') (kk : ∀ T' h', Stand p l e R s m args below meth c T' (locs ++ [⟨a, j.toNatClampNeg⟩]) cells slots → T'.heap = h' → Wr h h' a j.toNatClampNeg (.int (nar .char x)) → Arv Z h' a k .char z (vs.set i (.int (nar .char x))) dv → Ends p.tables e below (T'.setTop (mkF m pc' ls st)) P) : Ends p.tables e below (T.setTop (mkF m pc ls (.int x :: .int j :: .ref a :: st))) P := by
  obtain ⟨cl, A, q1, S, M, H, G⟩ := F
  exact s_stC X hx hZ eT A (inb_of S hj) hd hp fun T' h' X' e' W => kk T' h' X' e' W (Arv.set A q1 S M H G (fits_nar_char _) W i hi hl)
theorem s_putB (X : Stand p l e R s m args below meth c T locs cells slots) (hx : p.tables.exec = Jvm.exec) (hZ : Z.Warmed39 s.vm) (eT : T.heap = h) {a : Addr} {k : ClassId} {z : Int32} {vs : List Value} {dv : Value} {j : Int32} {x : Int32} (F : Arv Z h a k .byte z vs dv) (hj : ¬ j < 0 ∧ j < z) (i : Nat) (hi : j.toNatClampNeg = i) (hl : i < vs.length) (hd : decode c.code pc = .ok (.bastore, 1)) (hp : pc + 1 = pc') (kk : ∀ T' h', Stand p l e R s m args below meth c T' (locs ++ [⟨a, j.toNatClampNeg⟩]) cells slots → T'.heap = h' → Wr h h' a j.toNatClampNeg (.int (nar .byte x)) → Arv Z h' a k .byte z (vs.set i (.int (nar .byte x))) dv → Ends p.tables e below (T'.setTop (mkF m pc' ls st)) P) : Ends p.tables e below (T.setTop (mkF m pc ls (.int x :: .int j :: .ref a :: st))) P := by
  obtain ⟨cl, A, q1, S, M, H, G⟩ := F
  exact s_stB X hx hZ eT A (inb_of S hj) hd hp fun T' h' X' e' W => kk T' h' X' e' W (Arv.set A q1 S M H G (fits_nar_byte _) W i hi hl)
theorem s_initO (X : Stand p l e R s m args below meth c T locs cells slots) (hx : p.tables.exec = Jvm.exec) (hZ : Z.Warmed39 s.vm) {own : String} {idx : Nat} (hown : s.vm.findClass own = some m.cls) (w1 : (Jvm.Cond.methodLink own idx Lib.objectInit).before a0 Z = true) (w2 : (Jvm.Cond.instanceMethod Lib.objectInit).before a0 Z = true) (w3 : (Jvm.Cond.code Lib.objectInit ⟨#[0xb1]⟩ 1 none).before a0 Z = true) (eT : T.heap = h) (hsize : ls.size = c.maxLocals) {a : Addr} (hd : decode c.code pc = .ok (.invokespecial idx, 3)) (hf : 1 ≤ R.frames) {W : Nat} (hW : (st.map fun v => v.category).sum ≤ W) (hl : W + 12 ≤ R.locals) (hp : pc + 3 = pc') (k : ∀ T', Stand p l e R s m args below meth c T' locs cells slots → T'.heap = h → Ends p.tables e below (T'.setTop (mkF m pc' ls st)) P) : Ends p.tables e below (T.setTop (mkF m pc ls (.ref a :: st))) P := by
  subst hp
  obtain ⟨T', X', e', s'⟩ := initO X hx hZ hown w1 w2 w3 eT (g := mkF m pc ls (.ref a :: st)) rfl hsize rfl hd hf (W := W) (by show 2 * 0 + _ ≤ _; omega) hl
  exact own_via s' (k T' X' e')
theorem s_castY (X : Stand p l e R s m args below meth c T locs cells slots) (hx : p.tables.exec = Jvm.exec) (hZ : Z.Warmed39 s.vm) {own K : String} {index : Nat} (hown : s.vm.findClass own = some m.cls) (w : (Jvm.Cond.classLink own index K).before a0 Z = true) (eT : T.heap = h) {a : Addr} (F : Ins Z h a K true) (hd : decode c.code pc = .ok (.checkcast index, 3)) (hp : pc + 3 = pc') (k : ∀ T', Stand p l e R s m args below meth c T' locs cells slots → T'.heap = h → Ends p.tables e below (T'.setTop (mkF m pc' ls (.ref a :: st))) P) : Ends p.tables e below (T.setTop (mkF m pc ls (.ref a :: st))) P := by
  subst hp
  obtain ⟨T', X', e', s'⟩ := castY X hx hZ hown w eT F (g := mkF m pc ls (.ref a :: st)) rfl rfl hd
  exact own_via s' (k T' X' e')
theorem s_instY (X : Stand p l e R s m args below meth c T locs cells slots) (hx : p.tables.exec = Jvm.exec) (hZ : Z.Warmed39 s.vm) {own K : String} {index : Nat} (hown : s.vm.findClass own = some m.cls) (w : (Jvm.Cond.classLink own index K).before a0 Z = true) (eT : T.heap = h) {a : Addr} (F : Ins Z h a K true) (hd : decode c.code pc = .ok (.instanceof index, 3)) (hp : pc + 3 = pc') (k : ∀ T', Stand p l e R s m args below meth c T' locs cells slots → T'.heap = h → Ends p.tables e below (T'.setTop (mkF m pc' ls (.int 1 :: st))) P) : Ends p.tables e below (T.setTop (mkF m pc ls (.ref a :: st))) P := by
  subst hp
  obtain ⟨T', X', e', s'⟩ := instY X hx hZ hown w eT F (g := mkF m pc ls (.ref a :: st)) rfl rfl hd
  exact own_via s' (k T' X' e')
theorem s_callS (X : Stand p l e R s m args below meth c T locs cells slots) (hx : p.tables.exec = Jvm.exec) (hZ : Z.Warmed39 s.vm) {y : MethodName} {bytes : ByteArray} {maxL : Nat} {ret : Option FieldType} {rm : Room} {W : Nat} {as' : Array Value} {Q : Option Value → Heap → List Loc → Prop} {own : String} {index : Nat} (hown : s.vm.findClass own = some m.cls) (w1 : (Jvm.Cond.methodLink own index y).before a0 Z = true) (w2 : (Jvm.Cond.static y).before a0 Z = true) (w3 : (Jvm.Cond.initialized y.cls).before a0 Z = true) (w4 : (Jvm.Cond.code y bytes maxL ret).before a0 Z = true) (hy : y.cls ≠ "java/lang/invoke/MethodHandle" ∧ y.cls ≠ "java/lang/invoke/VarHandle") (eT : T.heap = h) (hM : MetFree l y (head1 [Jvm.Cond.code y bytes maxL ret] rm) (fun a U => a = as' ∧ Z.Warmed39 U.vm ∧ U.heap = h) (fun _ _ _ _ _ => True) (fun _ U o U' => ∃ v L, o = .returned v ∧ Q v U'.heap L ∧ FrameEnd U o U' L rm.cells rm.slots)) (hsize : ls.size = c.maxLocals) (argsL rest : List Value) (has : as' = argsL.toArray) (hlen : ∀ sig, parseMethodDescriptor y.desc = some sig → argsL.length = sig.parameters.length) (hstack : st = argsL.reverse ++ rest) (hW : (rest.map fun v => v.category).sum ≤ W) (hf : rm.frames + 1 ≤ R.frames) (hl : W + (maxL + 11) + rm.locals ≤ R.locals) (hce : cells + rm.cells ≤ R.cells) (hsl : slots + rm.slots ≤ R.slots) (hp : pc + 3 = pc') (hd : decode c.code pc = .ok (.invokestatic index, 3)) (k : ∀ T' v L, Stand p l e R s m args below meth c T' (locs ++ L) (cells + rm.cells) (slots + rm.slots) → Q v T'.heap L → Ends p.tables e below (T'.setTop (mkF m pc' ls (v.toList ++ rest))) P) : Ends p.tables e below (T.setTop (mkF m pc ls st)) P := by
  subst hp has hstack
  obtain ⟨v, _, ⟨T', _, _, _⟩, -, X', ⟨L, hQ, e1, e2, e3⟩, s'⟩ := Jvm.LawKit.callS X hx (y := y) hown (mvT hZ w1) (mvT hZ w2) (mvT hZ w3) (mvT hZ w4) hy (backOf (W := W) hM hZ w4 w3 hf hl) (g := mkF m pc ls (argsL.reverse ++ rest)) rfl hsize (argsL := argsL) (rest := rest) hlen rfl (by show 2 * 0 + _ ≤ _; omega) hd (fun _ _ => ⟨rfl, eT, hce, hsl⟩)
  dsimp only [Pt.U, Pt.locs, Pt.cells, Pt.slots] at X' e1 e2 e3 s' hQ
  subst e1 e2 e3
  exact own_via s' (k T' v L X' hQ)
theorem s_callI (X : Stand p l e R s m args below meth c T locs cells slots) (hx : p.tables.exec = Jvm.exec) (hZ : Z.Warmed39 s.vm) {y : MethodName} {bytes : ByteArray} {maxL : Nat} {rm : Room} {W : Nat} {as' : Array Value} {Q : Option Value → Heap → List Loc → Prop} {own : String} {index : Nat} (hy1 : y.name = "<init>") (hown : s.vm.findClass own = some m.cls) (w1 : (Jvm.Cond.methodLink own index y).before a0 Z = true) (w2 : (Jvm.Cond.instanceMethod y).before a0 Z = true) (w3 : (Jvm.Cond.initialized y.cls).before a0 Z = true) (w4 : (Jvm.Cond.code y bytes maxL none).before a0 Z = true) (hy : y.cls ≠ "java/lang/invoke/MethodHandle" ∧ y.cls ≠ "java/lang/invoke/VarHandle") (eT : T.heap = h) (hM : MetFree l y (head1 [Jvm.Cond.code y bytes maxL none] rm) (fun a U => a = as' ∧ Z.Warmed39 U.vm ∧ U.heap = h) (fun _ _ _ _ _ => True) (fun _ U o U' => ∃ v L, o = .returned v ∧ Q v U'.heap L ∧ FrameEnd U o U' L rm.cells rm.slots)) (a : Addr) (hsize : ls.size = c.maxLocals) (argsL rest : List Value) (has : as' = (.ref a :: argsL).toArray) (hlen : ∀ sig, parseMethodDescriptor y.desc = some sig → argsL.length = sig.parameters.length) (hstack : st = argsL.reverse ++ .ref a :: rest) (hW : (rest.map fun v => v.category).sum ≤ W) (hf : rm.frames + 1 ≤ R.frames) (hl : W + (maxL + 11) + rm.locals ≤ R.locals) (hce : cells + rm.cells ≤ R.cells) (hsl : slots + rm.slots ≤ R.slots) (hp : pc + 3 = pc') (hd : decode c.code pc = .ok (.invokespecial index, 3)) (k : ∀ T' v L, Stand p l e R s m args below meth c T' (locs ++ L) (cells + rm.cells) (slots + rm.slots) → Q v T'.heap L → Ends p.tables e below (T'.setTop (mkF m pc' ls (v.toList ++ rest))) P) : Ends p.tables e below (T.setTop (mkF m pc ls st)) P := by
  subst hp has hstack
  obtain ⟨v, _, ⟨T', _, _, _⟩, -, X', ⟨L, hQ, e1, e2, e3⟩, s'⟩ := X.specialBack hx (y := y) hy1 hown (mvT hZ w1) (mvT hZ w2) (mvT hZ w4) hy (backOf (W := W) hM hZ w4 w3 hf hl) (g := mkF m pc ls (argsL.reverse ++ .ref a :: rest)) rfl hsize (Steps.refl _) (a := a) (argsL := argsL) (rest := rest) hlen rfl (by show 2 * 0 + _ ≤ _; omega) hd (fun _ _ => ⟨rfl, eT, hce, hsl⟩)
  dsimp only [Pt.U, Pt.locs, Pt.cells, Pt.slots] at X' e1 e2 e3 s' hQ
  subst e1 e2 e3
  exact own_via (fun t_ k_ => s'.trans k_) (k T' v L X' hQ)
theorem s_callV (X : Stand p l e R s m args below meth c T locs cells slots) (hx : p.tables.exec = Jvm.exec) (hZ : Z.Warmed39 s.vm) {y : MethodName} {bytes : ByteArray} {maxL : Nat} {ret : Option FieldType} {rm : Room} {W : Nat} {as' : Array Value} {Q : Option Value → Heap → List Loc → Prop} {a : Addr} {own C : String} {index : Nat} (hown : s.vm.findClass own = some m.cls) (w1 : (Jvm.Cond.methodLink own index y).before a0 Z = true) (w2 : (Jvm.Cond.declares y).before a0 Z = true) (w3 : (Jvm.Cond.initialized y.cls).before a0 Z = true) (w4 : (Jvm.Cond.code y bytes maxL ret).before a0 Z = true) (w5 : (Jvm.Cond.selects C y y).before a0 Z = true) (w6 : (Jvm.Cond.instanceMethod y).before a0 Z = true) (hy : y.cls ≠ "java/lang/invoke/MethodHandle" ∧ y.cls ≠ "java/lang/invoke/VarHandle") (eT : T.heap = h) (E : Exa Z h a C) (hM : MetFree l y (head1 [Jvm.Cond.code y bytes maxL ret] rm) (fun a U => a = as' ∧ Z.Warmed39 U.vm ∧ U.heap = h) (fun _ _ _ _ _ => True) (fun _ U o U' => ∃ v L, o = .returned v ∧ Q v U'.heap L ∧ FrameEnd U o U' L rm.cells rm.slots)) (hsize : ls.size = c.maxLocals) (argsL rest : List Value) (has : as' = (.ref a :: argsL).toArray) (hlen : ∀ sig, parseMethodDescriptor y.desc = some sig → argsL.length = sig.parameters.length) (hstack : st = argsL.reverse ++ .ref a :: rest) (hW : (rest.map fun v => v.category).sum ≤ W) (hf : rm.frames + 1 ≤ R.frames) (hl : W + (maxL + 11) + rm.locals ≤ R.locals) (hce : cells + rm.cells ≤ R.cells) (hsl : slots + rm.slots ≤ R.slots) (hp : pc + 3 = pc') (hd : decode c.code pc = .ok (.invokevirtual index, 3)) (k : ∀ T' v L, Stand p l e R s m args below meth c T' (locs ++ L) (cells + rm.cells) (slots + rm.slots) → Q v T'.heap L → Ends p.tables e below (T'.setTop (mkF m pc' ls (v.toList ++ rest))) P) : Ends p.tables e below (T.setTop (mkF m pc ls st)) P := by
  subst hp has hstack
  obtain ⟨cq, kq, qa, qb, qc⟩ := isOf hZ eT E
  obtain ⟨v, _, ⟨T', _, _, _⟩, -, X', ⟨L, hQ, e1, e2, e3⟩, s'⟩ := X.virtualBack hx (y := y) (z := y) hown (mvT hZ w1) (mvT hZ w2) (notFace_of_selects (args := #[]) (mvT hZ w5)) (mvT hZ w5) (mvT hZ w6) hy (backOf (W := W) hM hZ w4 w3 hf hl) qa qc (g := mkF m pc ls (argsL.reverse ++ .ref a :: rest)) rfl hsize (Steps.refl _) (argsL := argsL) (rest := rest) hlen rfl (by show 2 * 0 + _ ≤ _; omega) hd (fun _ _ => ⟨rfl, eT, hce, hsl⟩)
  dsimp only [Pt.U, Pt.locs, Pt.cells, Pt.slots] at X' e1 e2 e3 s' hQ
  subst e1 e2 e3
  exact own_via (fun t_ k_ => s'.trans k_) (k T' v L X' hQ)
theorem s_callP (X : Stand p l e R s m args below meth c T locs cells slots) (hx : p.tables.exec = Jvm.exec) (hZ : Z.Warmed39 s.vm) {y : MethodName} {bytes : ByteArray} {maxL : Nat} {ret : Option FieldType} {rm : Room} {W : Nat} {as' : Array Value} {Q : Option Value → Heap → List Loc → Prop} {a : Addr} {own C : String} {index : Nat} {zz : MethodName} (hzz : zz.cls = y.cls) (hown : s.vm.findClass own = some m.cls) (w1 : (Jvm.Cond.methodLink own index y).before a0 Z = true) (w2 : (Jvm.Cond.privateMethod y).before a0 Z = true) (w3 : (Jvm.Cond.initialized y.cls).before a0 Z = true) (w4 : (Jvm.Cond.code y bytes maxL ret).before a0 Z = true) (w5 : (Jvm.Cond.selects zz.cls zz zz).before a0 Z = true) (w6 : (Jvm.Cond.instanceMethod y).before a0 Z = true) (hy : y.cls ≠ "java/lang/invoke/MethodHandle" ∧ y.cls ≠ "java/lang/invoke/VarHandle") (eT : T.heap = h) (E : Exa Z h a C) (hM : MetFree l y (head1 [Jvm.Cond.code y bytes maxL ret] rm) (fun a U => a = as' ∧ Z.Warmed39 U.vm ∧ U.heap = h) (fun _ _ _ _ _ => True) (fun _ U o U' => ∃ v L, o = .returned v ∧ Q v U'.heap L ∧ FrameEnd U o U' L rm.cells rm.slots)) (hsize : ls.size = c.maxLocals) (argsL rest : List Value) (has : as' = (.ref a :: argsL).toArray) (hlen : ∀ sig, parseMethodDescriptor y.desc = some sig → argsL.length = sig.parameters.length) (hstack : st = argsL.reverse ++ .ref a :: rest) (hW : (rest.map fun v => v.category).sum ≤ W) (hf : rm.frames + 1 ≤ R.frames) (hl : W + (maxL + 11) + rm.locals ≤ R.locals) (hce : cells + rm.cells ≤ R.cells) (hsl : slots + rm.slots ≤ R.slots) (hp : pc + 3 = pc') (hd : decode c.code pc = .ok (.invokevirtual index, 3)) (k : ∀ T' v L, Stand p l e R s m args below meth c T' (locs ++ L) (cells + rm.cells) (slots + rm.slots) → Q v T'.heap L → Ends p.tables e below (T'.setTop (mkF m pc' ls (v.toList ++ rest))) P) : Ends p.tables e below (T.setTop (mkF m pc ls st)) P := by
  subst hp has hstack
  obtain ⟨cq, qa, qb⟩ := E.cell
  have hpr := Cond.privateMethod_at (mvP hZ w2 (args := #[]))
  obtain ⟨v, _, ⟨T', _, _, _⟩, -, X', ⟨L, hQ, e1, e2, e3⟩, s'⟩ := X.privateBack hx (y := y) hown (mvT hZ w1) (mvT hZ w6) (own_selPriv hzz (mvT hZ w5) hpr (mvT hZ w6) hy) hpr (mvT hZ w4) hy (backOf (W := W) hM hZ w4 w3 hf hl) (g := mkF m pc ls (argsL.reverse ++ .ref a :: rest)) rfl hsize (Steps.refl _) (a := a) (by rw [eT]; exact qa) qb (argsL := argsL) (rest := rest) hlen rfl (by show 2 * 0 + _ ≤ _; omega) hd (fun _ _ => ⟨rfl, eT, hce, hsl⟩)
  dsimp only [Pt.U, Pt.locs, Pt.cells, Pt.slots] at X' e1 e2 e3 s' hQ
  subst e1 e2 e3
  exact own_via (fun t_ k_ => s'.trans k_) (k T' v L X' hQ)
theorem s_irem (X : Stand p l e R s m args below meth c T locs cells slots) (hx : p.tables.exec = Jvm.exec) {x y : Int32} (hd : decode c.code pc = .ok (.irem, 1)) (hy : y ≠ 0) (hp : pc + 1 = pc') (hr : Ends p.tables e below (T.setTop (mkF m pc' ls (.int (x % y) :: st))) P) : Ends p.tables e below (T.setTop (mkF m pc ls (.int y :: .int x :: st))) P := by
  subst hp
  exact own_via (fun t_ k_ => iremM X hx rfl hd rfl hy k_) hr
theorem s_ldcI (X : Stand p l e R s m args below meth c T locs cells slots) (hx : p.tables.exec = Jvm.exec) (hZ : Z.Warmed39 s.vm) {own : String} {index : Nat} {v : Int32} (hown : s.vm.findClass own = some m.cls) (w : (Jvm.Cond.constant own index v).before a0 Z = true) (hd : decode c.code pc = .ok (.ldc index, 2)) (hp : pc + 2 = pc') (hr : Ends p.tables e below (T.setTop (mkF m pc' ls (.int v :: st))) P) : Ends p.tables e below (T.setTop (mkF m pc ls st)) P := by
  subst hp
  exact own_via (X.ldcInt hx hown (mvT hZ w) (g := mkF m pc ls st) rfl hd) hr
theorem s_ldcJ (X : Stand p l e R s m args below meth c T locs cells slots) (hx : p.tables.exec = Jvm.exec) (hZ : Z.Warmed39 s.vm) {own : String} {index : Nat} {v : Int64} (hown : s.vm.findClass own = some m.cls) (w : (Jvm.Cond.constantLong own index v).before a0 Z = true) (hd : decode c.code pc = .ok (.ldc2_w index, 3)) (hp : pc + 3 = pc') (hr : Ends p.tables e below (T.setTop (mkF m pc' ls (.long v :: st))) P) : Ends p.tables e below (T.setTop (mkF m pc ls st)) P := by
  subst hp
  exact own_via (X.ldc2Long hx hown (mvT hZ w) (g := mkF m pc ls st) rfl hd) hr
theorem s_callSS {vm0 : Vm} (X : Stand p l e R (s.setVm vm0) m args below meth c T locs cells slots) (hx : p.tables.exec = Jvm.exec) (hZ : Z.Warmed39 (s.setVm vm0).vm) {k0 : Nat} (hS : s.Since vm0 k0) (hk : k0 ≤ h.size) {y : MethodName} {bytes : ByteArray} {maxL : Nat} {ret : Option FieldType} {rm : Room} {W : Nat} {as' : Array Value} {Q : Option Value → Heap → List Loc → Prop} {own : String} {index : Nat} (hown : (s.setVm vm0).vm.findClass own = some m.cls) (w1 : (Jvm.Cond.methodLink own index y).before a0 Z = true) (w2 : (Jvm.Cond.static y).before a0 Z = true) (w3 : (Jvm.Cond.initialized y.cls).before a0 Z = true) (w4 : (Jvm.Cond.code y bytes maxL ret).before a0 Z = true) (hy : y.cls ≠ "java/lang/invoke/MethodHandle" ∧ y.cls ≠ "java/lang/invoke/VarHandle") (eT : T.heap = h) (hM : MetFree l y (head1 [Jvm.Cond.code y bytes maxL ret] rm) (fun a U => a = as' ∧ Z.Warmed39 U.vm ∧ U.heap = h) (fun _ _ _ _ _ => True) (fun _ U o U' => ∃ v L, o = .returned v ∧ Q v U'.heap L ∧ ReturnedEndW U o U' L rm.cells rm.slots)) (hsize : ls.size = c.maxLocals) (argsL rest : List Value) (has : as' = argsL.toArray) (hlen : ∀ sig, parseMethodDescriptor y.desc = some sig → argsL.length = sig.parameters.length) (hstack : st = argsL.reverse ++ rest) (hW : (rest.map fun v => v.category).sum ≤ W) (hf : rm.frames + 1 ≤ R.frames) (hl : W + (maxL + 11) + rm.locals ≤ R.locals) (hce : cells + rm.cells ≤ R.cells) (hsl : slots + rm.slots ≤ R.slots) (hp : pc + 3 = pc') (hd : decode c.code pc = .ok (.invokestatic index, 3)) (k : ∀ T' v L, Stand p l e R (s.setVm T'.vm) m args below meth c T' (locs ++ L) (cells + rm.cells) (slots + rm.slots) → s.Since T'.vm T'.heap.size → Z.Warmed39 (s.setVm T'.vm).vm → (s.setVm T'.vm).vm.findClass own = some m.cls → Q v T'.heap L → Ends p.tables e below (T'.setTop (mkF m pc' ls (v.toList ++ rest))) P) : Ends p.tables e below (T.setTop (mkF m pc ls st)) P := by
  subst hp has hstack
  obtain ⟨v, _, ⟨T', _, _, _⟩, -, X', S', g', ⟨L, hQ, e1, e2, e3⟩, s'⟩ := callSS X hx (y := y) hown (mvT hZ w1) (mvT hZ w2) (mvT hZ w3) (mvT hZ w4) hy (backOfS (W := W) hM hZ w4 w3 hf hl) (g := mkF m pc ls (argsL.reverse ++ rest)) rfl hsize (argsL := argsL) (rest := rest) hlen rfl (by show 2 * 0 + _ ≤ _; omega) hd (fun _ _ => ⟨rfl, eT, hce, hsl⟩)
  dsimp only [Pt.U, Pt.locs, Pt.cells, Pt.slots] at X' S' g' e1 e2 e3 s' hQ
  subst e1 e2 e3
  obtain ⟨X2, S2, Z2, o2⟩ := rebS hS (show _ ≤ T.heap.size by rw [eT]; exact hk) X' S' g' hZ hown
  exact own_via (fun t_ k_ => s'.trans k_) (k T' v L X2 S2 Z2 o2 hQ)
theorem s_callIS {vm0 : Vm} (X : Stand p l e R (s.setVm vm0) m args below meth c T locs cells slots) (hx : p.tables.exec = Jvm.exec) (hZ : Z.Warmed39 (s.setVm vm0).vm) {k0 : Nat} (hS : s.Since vm0 k0) (hk : k0 ≤ h.size) {y : MethodName} {bytes : ByteArray} {maxL : Nat} {rm : Room} {W : Nat} {as' : Array Value} {Q : Option Value → Heap → List Loc → Prop} {own : String} {index : Nat} (hown : (s.setVm vm0).vm.findClass own = some m.cls) (hy1 : y.name = "<init>") (w1 : (Jvm.Cond.methodLink own index y).before a0 Z = true) (w2 : (Jvm.Cond.instanceMethod y).before a0 Z = true) (w3 : (Jvm.Cond.initialized y.cls).before a0 Z = true) (w4 : (Jvm.Cond.code y bytes maxL none).before a0 Z = true) (hy : y.cls ≠ "java/lang/invoke/MethodHandle" ∧ y.cls ≠ "java/lang/invoke/VarHandle") (eT : T.heap = h) (hM : MetFree l y (head1 [Jvm.Cond.code y bytes maxL none] rm) (fun a U => a = as' ∧ Z.Warmed39 U.vm ∧ U.heap = h) (fun _ _ _ _ _ => True) (fun _ U o U' => ∃ v L, o = .returned v ∧ Q v U'.heap L ∧ ReturnedEndW U o U' L rm.cells rm.slots)) (a : Addr) (hsize : ls.size = c.maxLocals) (argsL rest : List Value) (has : as' = (.ref a :: argsL).toArray) (hlen : ∀ sig, parseMethodDescriptor y.desc = some sig → argsL.length = sig.parameters.length) (hstack : st = argsL.reverse ++ .ref a :: rest) (hW : (rest.map fun v => v.category).sum ≤ W) (hf : rm.frames + 1 ≤ R.frames) (hl : W + (maxL + 11) + rm.locals ≤ R.locals) (hce : cells + rm.cells ≤ R.cells) (hsl : slots + rm.slots ≤ R.slots) (hp : pc + 3 = pc') (hd : decode c.code pc = .ok (.invokespecial index, 3)) (k : ∀ T' v L, Stand p l e R (s.setVm T'.vm) m args below meth c T' (locs ++ L) (cells + rm.cells) (slots + rm.slots) → s.Since T'.vm T'.heap.size → Z.Warmed39 (s.setVm T'.vm).vm → (s.setVm T'.vm).vm.findClass own = some m.cls → Q v T'.heap L → Ends p.tables e below (T'.setTop (mkF m pc' ls (v.toList ++ rest))) P) : Ends p.tables e below (T.setTop (mkF m pc ls st)) P := by
  subst hp has hstack
  obtain ⟨v, _, ⟨T', _, _, _⟩, -, X', S', g', ⟨L, hQ, e1, e2, e3⟩, s'⟩ := X.specialBackS hx (y := y) hy1 hown (mvT hZ w1) (mvT hZ w2) (mvT hZ w4) hy (backOfS (W := W) hM hZ w4 w3 hf hl) (g := mkF m pc ls (argsL.reverse ++ .ref a :: rest)) rfl hsize (Steps.refl _) (a := a) (argsL := argsL) (rest := rest) hlen rfl (by show 2 * 0 + _ ≤ _; omega) hd (fun _ _ => ⟨rfl, eT, hce, hsl⟩)
  dsimp only [Pt.U, Pt.locs, Pt.cells, Pt.slots] at X' S' g' e1 e2 e3 s' hQ
  subst e1 e2 e3
  obtain ⟨X2, S2, Z2, o2⟩ := rebS hS (show _ ≤ T.heap.size by rw [eT]; exact hk) X' S' g' hZ hown
  exact own_via (fun t_ k_ => s'.trans k_) (k T' v L X2 S2 Z2 o2 hQ)
theorem s_callVS {vm0 : Vm} (X : Stand p l e R (s.setVm vm0) m args below meth c T locs cells slots) (hx : p.tables.exec = Jvm.exec) (hZ : Z.Warmed39 (s.setVm vm0).vm) {k0 : Nat} (hS : s.Since vm0 k0) (hk : k0 ≤ h.size) {y : MethodName} {bytes : ByteArray} {maxL : Nat} {ret : Option FieldType} {rm : Room} {W : Nat} {as' : Array Value} {Q : Option Value → Heap → List Loc → Prop} {a : Addr} {C : String} {own : String} {index : Nat} (hown : (s.setVm vm0).vm.findClass own = some m.cls) (w1 : (Jvm.Cond.methodLink own index y).before a0 Z = true) (w2 : (Jvm.Cond.declares y).before a0 Z = true) (w3 : (Jvm.Cond.initialized y.cls).before a0 Z = true) (w4 : (Jvm.Cond.code y bytes maxL ret).before a0 Z = true) (w5 : (Jvm.Cond.selects C y y).before a0 Z = true) (w6 : (Jvm.Cond.instanceMethod y).before a0 Z = true) (hy : y.cls ≠ "java/lang/invoke/MethodHandle" ∧ y.cls ≠ "java/lang/invoke/VarHandle") (eT : T.heap = h) (E : Exa Z h a C) (hM : MetFree l y (head1 [Jvm.Cond.code y bytes maxL ret] rm) (fun a U => a = as' ∧ Z.Warmed39 U.vm ∧ U.heap = h) (fun _ _ _ _ _ => True) (fun _ U o U' => ∃ v L, o = .returned v ∧ Q v U'.heap L ∧ ReturnedEndW U o U' L rm.cells rm.slots)) (hsize : ls.size = c.maxLocals) (argsL rest : List Value) (has : as' = (.ref a :: argsL).toArray) (hlen : ∀ sig, parseMethodDescriptor y.desc = some sig → argsL.length = sig.parameters.length) (hstack : st = argsL.reverse ++ .ref a :: rest) (hW : (rest.map fun v => v.category).sum ≤ W) (hf : rm.frames + 1 ≤ R.frames) (hl : W + (maxL + 11) + rm.locals ≤ R.locals) (hce : cells + rm.cells ≤ R.cells) (hsl : slots + rm.slots ≤ R.slots) (hp : pc + 3 = pc') (hd : decode c.code pc = .ok (.invokevirtual index, 3)) (k : ∀ T' v L, Stand p l e R (s.setVm T'.vm) m args below meth c T' (locs ++ L) (cells + rm.cells) (slots + rm.slots) → s.Since T'.vm T'.heap.size → Z.Warmed39 (s.setVm T'.vm).vm → (s.setVm T'.vm).vm.findClass own = some m.cls → Q v T'.heap L → Ends p.tables e below (T'.setTop (mkF m pc' ls (v.toList ++ rest))) P) : Ends p.tables e below (T.setTop (mkF m pc ls st)) P := by
  subst hp has hstack
  obtain ⟨cq, kq, qa, qb, qc⟩ := isOf hZ eT E
  obtain ⟨v, _, ⟨T', _, _, _⟩, -, X', S', g', ⟨L, hQ, e1, e2, e3⟩, s'⟩ := X.virtualBackS hx (y := y) (z := y) hown (mvT hZ w1) (mvT hZ w2) (notFace_of_selects (args := #[]) (mvT hZ w5)) (mvT hZ w5) (mvT hZ w6) hy (backOfS (W := W) hM hZ w4 w3 hf hl) qa qc (g := mkF m pc ls (argsL.reverse ++ .ref a :: rest)) rfl hsize (Steps.refl _) (argsL := argsL) (rest := rest) hlen rfl (by show 2 * 0 + _ ≤ _; omega) hd (fun _ _ => ⟨rfl, eT, hce, hsl⟩)
  dsimp only [Pt.U, Pt.locs, Pt.cells, Pt.slots] at X' S' g' e1 e2 e3 s' hQ
  subst e1 e2 e3
  obtain ⟨X2, S2, Z2, o2⟩ := rebS hS (show _ ≤ T.heap.size by rw [eT]; exact hk) X' S' g' hZ hown
  exact own_via (fun t_ k_ => s'.trans k_) (k T' v L X2 S2 Z2 o2 hQ)
theorem s_ldcS {vm0 : Vm} (X : Stand p l e R (s.setVm vm0) m args below meth c T locs cells slots) (hx : p.tables.exec = Jvm.exec) (hZ : Z.Warmed39 (s.setVm vm0).vm) {k0 : Nat} (hS : s.Since vm0 k0) (hk : k0 ≤ h.size) {own : String} {index : Nat} (hown : (s.setVm vm0).vm.findClass own = some m.cls) {text : String} (w : (Jvm.Cond.stringLink own index text).before a0 Z = true) (wS : ∀ a ∈ Bundle.stringAtoms, a.before a0 Z = true) (eT : T.heap = h) (hd : decode c.code pc = .ok (.ldc index, 2)) {n : Nat} (hn : 4 * text.toList.length ≤ n) (hbig : n ≤ 536870912) (hc : cells + 2 ≤ R.cells) (hl : slots + (n + 4) ≤ R.slots) (hp : pc + 2 = pc') (k : ∀ a T' h' k1, Stand p l e R (s.setVm T'.vm) m args below meth c T' locs (cells + 2) (slots + (n + 4)) → T'.heap = h' → Ext h h' → s.Since T'.vm k1 → k1 ≤ h'.size → Z.Warmed39 (s.setVm T'.vm).vm → (s.setVm T'.vm).vm.findClass own = some m.cls → Ends p.tables e below (T'.setTop (mkF m pc' ls (.ref a :: st))) P) : Ends p.tables e below (T.setTop (mkF m pc ls st)) P := by
  subst hp
  obtain ⟨a, T', h', k1, X', e', E', S', g', Z', o', s'⟩ := ldcS X hx hZ hown w wS eT hS hk (g := mkF m pc ls st) rfl hd hn hbig hc hl
  exact own_via s' (k a T' h' k1 X' e' E' S' g' Z' o')
theorem s_ldcSW {vm0 : Vm} (X : Stand p l e R (s.setVm vm0) m args below meth c T locs cells slots) (hx : p.tables.exec = Jvm.exec) (hZ : Z.Warmed39 (s.setVm vm0).vm) {k0 : Nat} (hS : s.Since vm0 k0) (hk : k0 ≤ h.size) {own : String} {index : Nat} (hown : (s.setVm vm0).vm.findClass own = some m.cls) {text : String} (w : (Jvm.Cond.stringLink own index text).before a0 Z = true) (wS : ∀ a ∈ Bundle.stringAtoms, a.before a0 Z = true) (eT : T.heap = h) (hd : decode c.code pc = .ok (.ldc_w index, 3)) {n : Nat} (hn : 4 * text.toList.length ≤ n) (hbig : n ≤ 536870912) (hc : cells + 2 ≤ R.cells) (hl : slots + (n + 4) ≤ R.slots) (hp : pc + 3 = pc') (k : ∀ a T' h' k1, Stand p l e R (s.setVm T'.vm) m args below meth c T' locs (cells + 2) (slots + (n + 4)) → T'.heap = h' → Ext h h' → s.Since T'.vm k1 → k1 ≤ h'.size → Z.Warmed39 (s.setVm T'.vm).vm → (s.setVm T'.vm).vm.findClass own = some m.cls → Ends p.tables e below (T'.setTop (mkF m pc' ls (.ref a :: st))) P) : Ends p.tables e below (T.setTop (mkF m pc ls st)) P := by
  subst hp
  obtain ⟨a, T', h', k1, X', e', E', S', g', Z', o', s'⟩ := ldcSW X hx hZ hown w wS eT hS hk (g := mkF m pc ls st) rfl hd hn hbig hc hl
  exact own_via s' (k a T' h' k1 X' e' E' S' g' Z' o')
end OwnLaws

theorem own_r0 {r : Int32} {P : Prop} (h : r = 0 ∨ r = 1) (q : r = 1 ↔ P) (n : ¬ P) : r = 0 := h.resolve_right fun z => n (q.mp z)
theorem own_pick (P : Prop) : ∃ r : Int32, (r = 0 ∨ r = 1) ∧ (r = 1 ↔ P) := by
  by_cases h : P
  · exact ⟨1, Or.inr rfl, fun _ => h, fun _ => rfl⟩
  · exact ⟨0, Or.inl rfl, fun q => absurd q (by decide), fun q => absurd q h⟩
theorem own_byteAt {Z : State} {h : Heap} {a : Addr} {k : ClassId} {z : Int32} {vs : List Value} {d : Value} (F : Arv Z h a k .byte z vs d) {j : Int32} (h0 : ¬ j < 0) (h1 : j < z) : ∃ x : Int32, vs.getD j.toNatClampNeg d = .int x := by
  obtain ⟨c, A, q, S, M, H, G⟩ := F
  have hin := inb_of S ⟨h0, h1⟩
  have g := G j.toNatClampNeg (Nat.lt_of_not_le fun y => hin (Or.inr y))
  cases hv : vs.getD j.toNatClampNeg d with
  | int x => exact ⟨x, rfl⟩
  | _ => rw [hv] at g; simp [fits] at g
theorem own_nlt_ {x y : Int32} (h : y.toInt ≤ x.toInt) : ¬ x < y := by
  rw [Int32.lt_iff_toInt_lt]
  omega
theorem own_lt_ {x y : Int32} (h : x.toInt < y.toInt) : x < y := Int32.lt_iff_toInt_lt.mpr h
/-- a range of the text: 0 ≤ f ≤ 4, 0 ≤ n ≤ 2 -/
def own_B (f n : Int32) : Prop := 0 ≤ f.toInt ∧ f.toInt ≤ 4 ∧ 0 ≤ n.toInt ∧ n.toInt ≤ 2
theorem own_n012 {f n : Int32} (h : own_B f n) : n = 0 ∨ n = 1 ∨ n = 2 := by
  obtain ⟨-, -, a, b⟩ := h
  have h0 : (0 : Int32).toInt = 0 := by decide
  have h1 : (1 : Int32).toInt = 1 := by decide
  have h2 : (2 : Int32).toInt = 2 := by decide
  have : n.toInt = (0 : Int32).toInt ∨ n.toInt = (1 : Int32).toInt ∨ n.toInt = (2 : Int32).toInt := by omega
  simpa only [Int32.toInt_inj] using this
/-- the values at f, f + 1, .., f + n - 1 -/
def own_A (vs : List Value) (f n : Nat) : List Value := (List.range n).map fun i => vs.getD (f + i) (.int (0 : Int32))
theorem own_Al (vs : List Value) (f n : Nat) : (own_A vs f n).length = n := by simp [own_A]
theorem own_A0 {vs : List Value} {f : Nat} {n : Int32} (h : n = 0) : own_A vs f n.toNatClampNeg = [] := by subst h; rfl
theorem own_A1 {vs : List Value} {f : Nat} {n : Int32} (h : n = 1) : own_A vs f n.toNatClampNeg = [vs.getD f (.int (0 : Int32))] := by subst h; rfl
theorem own_A2 {vs : List Value} {f : Nat} {n : Int32} (h : n = 2) : own_A vs f n.toNatClampNeg = [vs.getD f (.int (0 : Int32)), vs.getD (f + 1) (.int (0 : Int32))] := by subst h; rfl
theorem own_An {vs us : List Value} {f g : Nat} {n m : Int32} (hn : 0 ≤ n.toInt) (hm : 0 ≤ m.toInt) (h : own_A vs f n.toNatClampNeg = own_A us g m.toNatClampNeg) : n = m := by
  have q := congrArg List.length h
  rw [own_Al, own_Al] at q
  have e0 : (0 : Int32).toInt = 0 := by decide
  have a := nat_of (own_nlt_ (x := n) (y := 0) (by omega))
  have b := nat_of (own_nlt_ (x := m) (y := 0) (by omega))
  exact Int32.toInt_inj.mp (by omega)
theorem own_add1 {f k : Int32} (h : 0 ≤ f.toInt) (h' : f.toInt ≤ 1000) (hk : 0 ≤ k.toInt) (hk' : k.toInt ≤ 1000) : (f + k).toInt = f.toInt + k.toInt ∧ (f + k).toNatClampNeg = f.toNatClampNeg + k.toNatClampNeg := by
  have q1 := c_iadd f k
  have q2 := rng32 (f + k)
  have q3 : (f + k).toInt = f.toInt + k.toInt := by omega
  have e0 : (0 : Int32).toInt = 0 := by decide
  have a := nat_of (own_nlt_ (x := f) (y := 0) (by omega))
  have b := nat_of (own_nlt_ (x := k) (y := 0) (by omega))
  have d := nat_of (own_nlt_ (x := f + k) (y := 0) (by omega))
  exact ⟨q3, by omega⟩
theorem own_sub1 {f n : Int32} (h : own_B f n) : (f + n) - f = n := by
  rw [Int32.add_comm, Int32.add_sub_cancel]
theorem own_d13_0 : decode method_5_code 0 = .ok (.iload_n 2, 1) := by decide +kernel
theorem own_d13_1 : decode method_5_code 1 = .ok (.iload 4, 2) := by decide +kernel
theorem own_d13_3 : decode method_5_code 3 = .ok (.if_icmp .eq 5, 3) := by decide +kernel
theorem own_d13_6 : decode method_5_code 6 = .ok (.iconst 0, 1) := by decide +kernel
theorem own_d13_7 : decode method_5_code 7 = .ok (.ireturn, 1) := by decide +kernel
theorem own_d13_8 : decode method_5_code 8 = .ok (.iload_n 2, 1) := by decide +kernel
theorem own_d13_9 : decode method_5_code 9 = .ok (.iconst 1, 1) := by decide +kernel
theorem own_d13_10 : decode method_5_code 10 = .ok (.if_icmp .lt 14, 3) := by decide +kernel
theorem own_d13_24 : decode method_5_code 24 = .ok (.iload_n 2, 1) := by decide +kernel
theorem own_d13_25 : decode method_5_code 25 = .ok (.iconst 2, 1) := by decide +kernel
theorem own_d13_26 : decode method_5_code 26 = .ok (.if_icmp .lt 18, 3) := by decide +kernel
theorem own_d13_44 : decode method_5_code 44 = .ok (.iconst 1, 1) := by decide +kernel
theorem own_d13_45 : decode method_5_code 45 = .ok (.ireturn, 1) := by decide +kernel
theorem own_d13_13 : decode method_5_code 13 = .ok (.aload_n 0, 1) := by decide +kernel
theorem own_d13_14 : decode method_5_code 14 = .ok (.iload_n 1, 1) := by decide +kernel
theorem own_d13_15 : decode method_5_code 15 = .ok (.baload, 1) := by decide +kernel
theorem own_d13_16 : decode method_5_code 16 = .ok (.aload_n 0, 1) := by decide +kernel
theorem own_d13_17 : decode method_5_code 17 = .ok (.iload_n 3, 1) := by decide +kernel
theorem own_d13_18 : decode method_5_code 18 = .ok (.baload, 1) := by decide +kernel
theorem own_d13_19 : decode method_5_code 19 = .ok (.if_icmp .eq 5, 3) := by decide +kernel
theorem own_d13_22 : decode method_5_code 22 = .ok (.iconst 0, 1) := by decide +kernel
theorem own_d13_23 : decode method_5_code 23 = .ok (.ireturn, 1) := by decide +kernel
theorem own_d13_29 : decode method_5_code 29 = .ok (.aload_n 0, 1) := by decide +kernel
theorem own_d13_30 : decode method_5_code 30 = .ok (.iload_n 1, 1) := by decide +kernel
theorem own_d13_31 : decode method_5_code 31 = .ok (.iconst 1, 1) := by decide +kernel
theorem own_d13_32 : decode method_5_code 32 = .ok (.iadd, 1) := by decide +kernel
theorem own_d13_33 : decode method_5_code 33 = .ok (.baload, 1) := by decide +kernel
theorem own_d13_34 : decode method_5_code 34 = .ok (.aload_n 0, 1) := by decide +kernel
theorem own_d13_35 : decode method_5_code 35 = .ok (.iload_n 3, 1) := by decide +kernel
theorem own_d13_36 : decode method_5_code 36 = .ok (.iconst 1, 1) := by decide +kernel
theorem own_d13_37 : decode method_5_code 37 = .ok (.iadd, 1) := by decide +kernel
theorem own_d13_38 : decode method_5_code 38 = .ok (.baload, 1) := by decide +kernel
theorem own_d13_39 : decode method_5_code 39 = .ok (.if_icmp .eq 5, 3) := by decide +kernel
theorem own_d13_42 : decode method_5_code 42 = .ok (.iconst 0, 1) := by decide +kernel
theorem own_d13_43 : decode method_5_code 43 = .ok (.ireturn, 1) := by decide +kernel
theorem own_pn0 : plainName "com/example/vestbook/vestbook/FirstCopiesNumberOfPinLaw" = true := by first | (simp [plainName, overriddenIn]; done) | decide +kernel
theorem own_same_ef (m : MethodId) (t : Addr) (k : ClassId) (tb : List Value) (f1 : Int32) (n1 : Int32) (f2 : Int32) (n2 : Int32) (r : Int32) : entryFrame m #[(.ref t), (.int f1), (.int n1), (.int f2), (.int n2)] 5 = mkF m 0 #[.val (.ref t), .val (.int f1), .val (.int n1), .val (.int f2), .val (.int n2)] [] := by first | (simp [entryFrame, mkF, argsToLocals, Value.category]; done) | rfl
def own_same_Q (Z : State) (t : Addr) (k : ClassId) (tb : List Value) (f1 : Int32) (n1 : Int32) (f2 : Int32) (n2 : Int32) (r : Int32) (h0 : Heap) (n0 : Nat) (v : Option Value) (h : Heap) (L : List Loc) : Prop := v = some (.int r) ∧ Fr n0 L ∧ h = h0
set_option maxRecDepth 65536 in
set_option maxHeartbeats 40000000 in
theorem own_same (l : Launch) (Z : State) (a0 : Array Value) (hw : ∀ d ∈ tables_1, d.before a0 Z = true) (ws : List Jvm.Cond) (t : Addr) (k : ClassId) (tb : List Value) (f1 : Int32) (n1 : Int32) (f2 : Int32) (n2 : Int32) (r : Int32) (h0 : Heap) (n0 : Nat) (Z0 : n0 ≤ h0.size) (V_t : Arv Z h0 t k .byte (6 : Int32) tb (.int (0 : Int32))) (B1 : own_B f1 n1) (B2 : own_B f2 n2) (r01 : r = 0 ∨ r = 1) (hrr : r = 1 ↔ own_A tb f1.toNatClampNeg n1.toNatClampNeg = own_A tb f2.toNatClampNeg n2.toNatClampNeg) :
    MetFree l (⟨"com/example/vestbook/vestbook/FirstCopiesNumberOfPinLaw", "same", "([BIIII)Z"⟩ : MethodName) (head1 (Jvm.Cond.code (⟨"com/example/vestbook/vestbook/FirstCopiesNumberOfPinLaw", "same", "([BIIII)Z"⟩ : MethodName) method_5_code 5 (some .boolean) :: ws) ({ frames := 0, cells := 0, slots := 0, locals := 0 } : Room)) (fun as_ U => as_ = #[(.ref t), (.int f1), (.int n1), (.int f2), (.int n2)] ∧ Z.Warmed39 U.vm ∧ U.heap = h0) (fun _ _ _ _ _ => True) (fun _ U_ o_ V_ => ∃ v_ L_, o_ = .returned v_ ∧ own_same_Q Z t k tb f1 n1 f2 n2 r h0 n0 v_ V_.heap L_ ∧ FrameEnd U_ o_ V_ L_ ({ frames := 0, cells := 0, slots := 0, locals := 0 } : Room).cells ({ frames := 0, cells := 0, slots := 0, locals := 0 } : Room).slots) := by
  refine MetFree.of_bodySF (plainFor_of_name own_pn0) hisR ?_
  intro p e s m args below meth c s₁ Bd hml0 hP hK
  obtain ⟨rfl, hZ, hh⟩ := hP
  have hx := Bd.exec
  have hby := Bd.bytes
  have hml : c.maxLocals = 5 := hml0
  have hown : s.vm.findClass "com/example/vestbook/vestbook/FirstCopiesNumberOfPinLaw" = some m.cls := findClass_of_methodNamed Bd.named
  have hnm := (name_of_methodNamed Bd.named Bd.method).1
  have X0 : Stand p l e ({ frames := 0, cells := 0, slots := 0, locals := 0 } : Room) s m #[(.ref t), (.int f1), (.int n1), (.int f2), (.int n2)] below meth c s₁ [] 0 0 := Stand.of_body Bd
  have e0 : s₁.heap = h0 := by rw [← hh, Bd.state]; rfl
  have N0 := Fr.nil n0
  refine own_begin (own_same_ef m t k tb f1 n1 f2 n2 r) ?_
  show Ends p.tables e below (s₁.setTop (mkF m 0 #[.val (.ref t), .val (.int f1), .val (.int n1), .val (.int f2), .val (.int n2)] [])) _
  have zero : (0 : Int32).toInt = 0 := by decide
  have one : (1 : Int32).toInt = 1 := by decide
  have two : (2 : Int32).toInt = 2 := by decide
  have six : (6 : Int32).toInt = 6 := by decide
  have hn012 := own_n012 B1
  obtain ⟨b1, b2, b3, b4⟩ := B1
  obtain ⟨b1', b2', b3', b4'⟩ := B2
  refine s_iloadN (pc' := 1) X0.here hx (hb hby own_d13_0) rfl rfl ?_
  refine s_iload (pc' := 3) X0.here hx (hb hby own_d13_1) rfl rfl ?_
  by_cases hn : n1 = n2
  · refine s_icmpYes (pc' := 8) X0.here hx (hb hby own_d13_3) (teq hn).1 (by decide) (by decide) ?_
    have f1a := own_add1 b1 (by omega) (k := (1 : Int32)) (by decide) (by decide)
    have f2a := own_add1 b1' (by omega) (k := (1 : Int32)) (by decide) (by decide)
    refine s_iloadN (pc' := 9) X0.here hx (hb hby own_d13_8) rfl rfl ?_
    refine s_iconst (pc' := 10) X0.here hx (v := (1 : Int32)) (hb hby own_d13_9) rfl rfl ?_
    rcases hn012 with hc | hc | hc
    · have hk1 : n1 < (1 : Int32) := by rw [hc]; decide
      refine s_icmpYes (pc' := 24) X0.here hx (hb hby own_d13_10) (tlt hk1).1 (by decide) (by decide) ?_
      refine s_iloadN (pc' := 25) X0.here hx (hb hby own_d13_24) rfl rfl ?_
      refine s_iconst (pc' := 26) X0.here hx (v := (2 : Int32)) (hb hby own_d13_25) rfl rfl ?_
      have hk2 : n1 < (2 : Int32) := by rw [hc]; decide
      refine s_icmpYes (pc' := 44) X0.here hx (hb hby own_d13_26) (tlt hk2).1 (by decide) (by decide) ?_
      refine s_iconst (pc' := 45) X0.here hx (v := (1 : Int32)) (hb hby own_d13_44) rfl rfl ?_
      have r1 : r = 1 := hrr.mpr (by rw [own_A0 hc, own_A0 (hn ▸ hc)])
      obtain ⟨fs, hr, hrun, hended, hW, hsame⟩ := X0.leave (v := some (.int (1 : Int32))) (fun h => by rw [Bd.returns] at h; cases h)
      refine ⟨_, _, retN X0 hx (t := .boolean) Bd.returns (by simp) (hb hby own_d13_45) hr, hrun, hended, _, _, rfl, ?_, ⟨_, rfl⟩, hW, hsame.mono (by decide) (by decide)⟩
      show own_same_Q Z t k tb f1 n1 f2 n2 r h0 n0 _ s₁.heap _
      rw [e0]
      exact ⟨by rw [r1] <;> rfl, N0, rfl⟩
    · have hc' : n2 = 1 := hn ▸ hc
      have hk3 : ¬ (n1 < (1 : Int32)) := by rw [hc]; decide
      refine s_icmpNo (pc' := 13) X0.here hx (hb hby own_d13_10) (flt hk3).1 rfl ?_
      refine s_aloadN (pc' := 14) X0.here hx (hb hby own_d13_13) rfl rfl rfl ?_
      refine s_iloadN (pc' := 15) X0.here hx (hb hby own_d13_14) rfl rfl ?_
      have i0p : ¬ f1 < 0 := own_nlt_ (by omega)
      have i1p : f1 < (6 : Int32) := own_lt_ (by omega)
      obtain ⟨xp, hp⟩ := own_byteAt V_t i0p i1p
      refine s_baload (pc' := 16) (v := (.int xp)) X0 hx hZ e0 V_t ⟨i0p, i1p⟩ hp (hb hby own_d13_15) rfl ?_
      refine s_aloadN (pc' := 17) X0.here hx (hb hby own_d13_16) rfl rfl rfl ?_
      refine s_iloadN (pc' := 18) X0.here hx (hb hby own_d13_17) rfl rfl ?_
      have i0q : ¬ f2 < 0 := own_nlt_ (by omega)
      have i1q : f2 < (6 : Int32) := own_lt_ (by omega)
      obtain ⟨xq, hq⟩ := own_byteAt V_t i0q i1q
      refine s_baload (pc' := 19) (v := (.int xq)) X0 hx hZ e0 V_t ⟨i0q, i1q⟩ hq (hb hby own_d13_18) rfl ?_
      by_cases hxyp : xp = xq
      · refine s_icmpYes (pc' := 24) X0.here hx (hb hby own_d13_19) (teq hxyp).1 (by decide) (by decide) ?_
        refine s_iloadN (pc' := 25) X0.here hx (hb hby own_d13_24) rfl rfl ?_
        refine s_iconst (pc' := 26) X0.here hx (v := (2 : Int32)) (hb hby own_d13_25) rfl rfl ?_
        have hk4 : n1 < (2 : Int32) := by rw [hc]; decide
        refine s_icmpYes (pc' := 44) X0.here hx (hb hby own_d13_26) (tlt hk4).1 (by decide) (by decide) ?_
        refine s_iconst (pc' := 45) X0.here hx (v := (1 : Int32)) (hb hby own_d13_44) rfl rfl ?_
        have r1 : r = 1 := hrr.mpr (by rw [own_A1 hc, own_A1 hc', hp, hq, hxyp])
        obtain ⟨fs, hr, hrun, hended, hW, hsame⟩ := X0.leave (v := some (.int (1 : Int32))) (fun h => by rw [Bd.returns] at h; cases h)
        refine ⟨_, _, retN X0 hx (t := .boolean) Bd.returns (by simp) (hb hby own_d13_45) hr, hrun, hended, _, _, rfl, ?_, ⟨_, rfl⟩, hW, hsame.mono (by decide) (by decide)⟩
        show own_same_Q Z t k tb f1 n1 f2 n2 r h0 n0 _ s₁.heap _
        rw [e0]
        exact ⟨by rw [r1] <;> rfl, N0, rfl⟩
      · refine s_icmpNo (pc' := 22) X0.here hx (hb hby own_d13_19) (feq hxyp).1 rfl ?_
        refine s_iconst (pc' := 23) X0.here hx (v := (0 : Int32)) (hb hby own_d13_22) rfl rfl ?_
        obtain ⟨fs, hr, hrun, hended, hW, hsame⟩ := X0.leave (v := some (.int (0 : Int32))) (fun h => by rw [Bd.returns] at h; cases h)
        refine ⟨_, _, retN X0 hx (t := .boolean) Bd.returns (by simp) (hb hby own_d13_23) hr, hrun, hended, _, _, rfl, ?_, ⟨_, rfl⟩, hW, hsame.mono (by decide) (by decide)⟩
        show own_same_Q Z t k tb f1 n1 f2 n2 r h0 n0 _ s₁.heap _
        rw [e0]
        exact ⟨by rw [own_r0 r01 hrr (fun q => by rw [own_A1 hc, own_A1 hc', hp, hq] at q; exact hxyp (by simpa using q))] <;> rfl, N0, rfl⟩
    · have hc' : n2 = 2 := hn ▸ hc
      have hk5 : ¬ (n1 < (1 : Int32)) := by rw [hc]; decide
      refine s_icmpNo (pc' := 13) X0.here hx (hb hby own_d13_10) (flt hk5).1 rfl ?_
      refine s_aloadN (pc' := 14) X0.here hx (hb hby own_d13_13) rfl rfl rfl ?_
      refine s_iloadN (pc' := 15) X0.here hx (hb hby own_d13_14) rfl rfl ?_
      have i0p : ¬ f1 < 0 := own_nlt_ (by omega)
      have i1p : f1 < (6 : Int32) := own_lt_ (by omega)
      obtain ⟨xp, hp⟩ := own_byteAt V_t i0p i1p
      refine s_baload (pc' := 16) (v := (.int xp)) X0 hx hZ e0 V_t ⟨i0p, i1p⟩ hp (hb hby own_d13_15) rfl ?_
      refine s_aloadN (pc' := 17) X0.here hx (hb hby own_d13_16) rfl rfl rfl ?_
      refine s_iloadN (pc' := 18) X0.here hx (hb hby own_d13_17) rfl rfl ?_
      have i0q : ¬ f2 < 0 := own_nlt_ (by omega)
      have i1q : f2 < (6 : Int32) := own_lt_ (by omega)
      obtain ⟨xq, hq⟩ := own_byteAt V_t i0q i1q
      refine s_baload (pc' := 19) (v := (.int xq)) X0 hx hZ e0 V_t ⟨i0q, i1q⟩ hq (hb hby own_d13_18) rfl ?_
      by_cases hxyp : xp = xq
      · refine s_icmpYes (pc' := 24) X0.here hx (hb hby own_d13_19) (teq hxyp).1 (by decide) (by decide) ?_
        refine s_iloadN (pc' := 25) X0.here hx (hb hby own_d13_24) rfl rfl ?_
        refine s_iconst (pc' := 26) X0.here hx (v := (2 : Int32)) (hb hby own_d13_25) rfl rfl ?_
        have hk6 : ¬ (n1 < (2 : Int32)) := by rw [hc]; decide
        refine s_icmpNo (pc' := 29) X0.here hx (hb hby own_d13_26) (flt hk6).1 rfl ?_
        refine s_aloadN (pc' := 30) X0.here hx (hb hby own_d13_29) rfl rfl rfl ?_
        refine s_iloadN (pc' := 31) X0.here hx (hb hby own_d13_30) rfl rfl ?_
        refine s_iconst (pc' := 32) X0.here hx (v := (1 : Int32)) (hb hby own_d13_31) rfl rfl ?_
        refine s_iadd (pc' := 33) X0.here hx (hb hby own_d13_32) rfl ?_
        have i0u : ¬ (f1 + (1 : Int32)) < 0 := own_nlt_ (by omega)
        have i1u : (f1 + (1 : Int32)) < (6 : Int32) := own_lt_ (by omega)
        obtain ⟨xu, hu⟩ := own_byteAt V_t i0u i1u
        refine s_baload (pc' := 34) (v := (.int xu)) X0 hx hZ e0 V_t ⟨i0u, i1u⟩ hu (hb hby own_d13_33) rfl ?_
        refine s_aloadN (pc' := 35) X0.here hx (hb hby own_d13_34) rfl rfl rfl ?_
        refine s_iloadN (pc' := 36) X0.here hx (hb hby own_d13_35) rfl rfl ?_
        refine s_iconst (pc' := 37) X0.here hx (v := (1 : Int32)) (hb hby own_d13_36) rfl rfl ?_
        refine s_iadd (pc' := 38) X0.here hx (hb hby own_d13_37) rfl ?_
        have i0v : ¬ (f2 + (1 : Int32)) < 0 := own_nlt_ (by omega)
        have i1v : (f2 + (1 : Int32)) < (6 : Int32) := own_lt_ (by omega)
        obtain ⟨xv, hv⟩ := own_byteAt V_t i0v i1v
        refine s_baload (pc' := 39) (v := (.int xv)) X0 hx hZ e0 V_t ⟨i0v, i1v⟩ hv (hb hby own_d13_38) rfl ?_
        by_cases hxyu : xu = xv
        · refine s_icmpYes (pc' := 44) X0.here hx (hb hby own_d13_39) (teq hxyu).1 (by decide) (by decide) ?_
          refine s_iconst (pc' := 45) X0.here hx (v := (1 : Int32)) (hb hby own_d13_44) rfl rfl ?_
          have r1 : r = 1 := hrr.mpr (by rw [own_A2 hc, own_A2 hc', show f1.toNatClampNeg + 1 = (f1 + (1 : Int32)).toNatClampNeg from f1a.2.symm, show f2.toNatClampNeg + 1 = (f2 + (1 : Int32)).toNatClampNeg from f2a.2.symm, hp, hq, hu, hv, hxyp, hxyu])
          obtain ⟨fs, hr, hrun, hended, hW, hsame⟩ := X0.leave (v := some (.int (1 : Int32))) (fun h => by rw [Bd.returns] at h; cases h)
          refine ⟨_, _, retN X0 hx (t := .boolean) Bd.returns (by simp) (hb hby own_d13_45) hr, hrun, hended, _, _, rfl, ?_, ⟨_, rfl⟩, hW, hsame.mono (by decide) (by decide)⟩
          show own_same_Q Z t k tb f1 n1 f2 n2 r h0 n0 _ s₁.heap _
          rw [e0]
          exact ⟨by rw [r1] <;> rfl, N0, rfl⟩
        · refine s_icmpNo (pc' := 42) X0.here hx (hb hby own_d13_39) (feq hxyu).1 rfl ?_
          refine s_iconst (pc' := 43) X0.here hx (v := (0 : Int32)) (hb hby own_d13_42) rfl rfl ?_
          obtain ⟨fs, hr, hrun, hended, hW, hsame⟩ := X0.leave (v := some (.int (0 : Int32))) (fun h => by rw [Bd.returns] at h; cases h)
          refine ⟨_, _, retN X0 hx (t := .boolean) Bd.returns (by simp) (hb hby own_d13_43) hr, hrun, hended, _, _, rfl, ?_, ⟨_, rfl⟩, hW, hsame.mono (by decide) (by decide)⟩
          show own_same_Q Z t k tb f1 n1 f2 n2 r h0 n0 _ s₁.heap _
          rw [e0]
          exact ⟨by rw [own_r0 r01 hrr (fun q => by rw [own_A2 hc, own_A2 hc', show f1.toNatClampNeg + 1 = (f1 + (1 : Int32)).toNatClampNeg from f1a.2.symm, show f2.toNatClampNeg + 1 = (f2 + (1 : Int32)).toNatClampNeg from f2a.2.symm, hu, hv] at q; exact hxyu (by simpa using (List.cons.inj q).2))] <;> rfl, N0, rfl⟩
      · refine s_icmpNo (pc' := 22) X0.here hx (hb hby own_d13_19) (feq hxyp).1 rfl ?_
        refine s_iconst (pc' := 23) X0.here hx (v := (0 : Int32)) (hb hby own_d13_22) rfl rfl ?_
        obtain ⟨fs, hr, hrun, hended, hW, hsame⟩ := X0.leave (v := some (.int (0 : Int32))) (fun h => by rw [Bd.returns] at h; cases h)
        refine ⟨_, _, retN X0 hx (t := .boolean) Bd.returns (by simp) (hb hby own_d13_23) hr, hrun, hended, _, _, rfl, ?_, ⟨_, rfl⟩, hW, hsame.mono (by decide) (by decide)⟩
        show own_same_Q Z t k tb f1 n1 f2 n2 r h0 n0 _ s₁.heap _
        rw [e0]
        exact ⟨by rw [own_r0 r01 hrr (fun q => by rw [own_A2 hc, own_A2 hc', hp, hq] at q; exact hxyp (by simpa using (List.cons.inj q).1))] <;> rfl, N0, rfl⟩
  · refine s_icmpNo (pc' := 6) X0.here hx (hb hby own_d13_3) (feq hn).1 rfl ?_
    refine s_iconst (pc' := 7) X0.here hx (v := (0 : Int32)) (hb hby own_d13_6) rfl rfl ?_
    obtain ⟨fs, hr, hrun, hended, hW, hsame⟩ := X0.leave (v := some (.int (0 : Int32))) (fun h => by rw [Bd.returns] at h; cases h)
    refine ⟨_, _, retN X0 hx (t := .boolean) Bd.returns (by simp) (hb hby own_d13_7) hr, hrun, hended, _, _, rfl, ?_, ⟨_, rfl⟩, hW, hsame.mono (by decide) (by decide)⟩
    show own_same_Q Z t k tb f1 n1 f2 n2 r h0 n0 _ s₁.heap _
    rw [e0]
    exact ⟨by rw [own_r0 r01 hrr (fun q => hn (own_An b3 b3' q))] <;> rfl, N0, rfl⟩
theorem own_d12_0 : decode method_6_code 0 = .ok (.aload_n 0, 1) := by decide +kernel
theorem own_d12_1 : decode method_6_code 1 = .ok (.aload_n 1, 1) := by decide +kernel
theorem own_d12_2 : decode method_6_code 2 = .ok (.iload_n 2, 1) := by decide +kernel
theorem own_d12_3 : decode method_6_code 3 = .ok (.iaload, 1) := by decide +kernel
theorem own_d12_4 : decode method_6_code 4 = .ok (.aload_n 1, 1) := by decide +kernel
theorem own_d12_5 : decode method_6_code 5 = .ok (.iload_n 2, 1) := by decide +kernel
theorem own_d12_6 : decode method_6_code 6 = .ok (.iconst 1, 1) := by decide +kernel
theorem own_d12_7 : decode method_6_code 7 = .ok (.iadd, 1) := by decide +kernel
theorem own_d12_8 : decode method_6_code 8 = .ok (.iaload, 1) := by decide +kernel
theorem own_d12_9 : decode method_6_code 9 = .ok (.aload_n 1, 1) := by decide +kernel
theorem own_d12_10 : decode method_6_code 10 = .ok (.iload_n 3, 1) := by decide +kernel
theorem own_d12_11 : decode method_6_code 11 = .ok (.iaload, 1) := by decide +kernel
theorem own_d12_12 : decode method_6_code 12 = .ok (.aload_n 1, 1) := by decide +kernel
theorem own_d12_13 : decode method_6_code 13 = .ok (.iload_n 3, 1) := by decide +kernel
theorem own_d12_14 : decode method_6_code 14 = .ok (.iconst 1, 1) := by decide +kernel
theorem own_d12_15 : decode method_6_code 15 = .ok (.iadd, 1) := by decide +kernel
theorem own_d12_16 : decode method_6_code 16 = .ok (.iaload, 1) := by decide +kernel
theorem own_d12_17 : decode method_6_code 17 = .ok (.invokestatic 35, 3) := by decide +kernel
theorem own_pd0 : parseMethodDescriptor "([BIIII)Z" = some ⟨[(.array .byte), .int, .int, .int, .int], some .boolean⟩ := by decide +kernel
theorem own_d12_20 : decode method_6_code 20 = .ok (.ifCond .eq 34, 3) := by decide +kernel
theorem own_d12_54 : decode method_6_code 54 = .ok (.iconst 0, 1) := by decide +kernel
theorem own_d12_55 : decode method_6_code 55 = .ok (.ireturn, 1) := by decide +kernel
theorem own_d12_23 : decode method_6_code 23 = .ok (.aload_n 0, 1) := by decide +kernel
theorem own_d12_24 : decode method_6_code 24 = .ok (.aload_n 1, 1) := by decide +kernel
theorem own_d12_25 : decode method_6_code 25 = .ok (.iload_n 2, 1) := by decide +kernel
theorem own_d12_26 : decode method_6_code 26 = .ok (.iconst 2, 1) := by decide +kernel
theorem own_d12_27 : decode method_6_code 27 = .ok (.iadd, 1) := by decide +kernel
theorem own_d12_28 : decode method_6_code 28 = .ok (.iaload, 1) := by decide +kernel
theorem own_d12_29 : decode method_6_code 29 = .ok (.aload_n 1, 1) := by decide +kernel
theorem own_d12_30 : decode method_6_code 30 = .ok (.iload_n 2, 1) := by decide +kernel
theorem own_d12_31 : decode method_6_code 31 = .ok (.iconst 3, 1) := by decide +kernel
theorem own_d12_32 : decode method_6_code 32 = .ok (.iadd, 1) := by decide +kernel
theorem own_d12_33 : decode method_6_code 33 = .ok (.iaload, 1) := by decide +kernel
theorem own_d12_34 : decode method_6_code 34 = .ok (.aload_n 1, 1) := by decide +kernel
theorem own_d12_35 : decode method_6_code 35 = .ok (.iload_n 3, 1) := by decide +kernel
theorem own_d12_36 : decode method_6_code 36 = .ok (.iconst 2, 1) := by decide +kernel
theorem own_d12_37 : decode method_6_code 37 = .ok (.iadd, 1) := by decide +kernel
theorem own_d12_38 : decode method_6_code 38 = .ok (.iaload, 1) := by decide +kernel
theorem own_d12_39 : decode method_6_code 39 = .ok (.aload_n 1, 1) := by decide +kernel
theorem own_d12_40 : decode method_6_code 40 = .ok (.iload_n 3, 1) := by decide +kernel
theorem own_d12_41 : decode method_6_code 41 = .ok (.iconst 3, 1) := by decide +kernel
theorem own_d12_42 : decode method_6_code 42 = .ok (.iadd, 1) := by decide +kernel
theorem own_d12_43 : decode method_6_code 43 = .ok (.iaload, 1) := by decide +kernel
theorem own_d12_44 : decode method_6_code 44 = .ok (.invokestatic 35, 3) := by decide +kernel
theorem own_d12_47 : decode method_6_code 47 = .ok (.ifCond .eq 7, 3) := by decide +kernel
theorem own_d12_50 : decode method_6_code 50 = .ok (.iconst 1, 1) := by decide +kernel
theorem own_d12_51 : decode method_6_code 51 = .ok (.goto 4, 3) := by decide +kernel
theorem own_eqk_ef (m : MethodId) (t : Addr) (d : Addr) (o : Int32) (o' : Int32) (k : ClassId) (tb : List Value) (kd : ClassId) (ds : List Value) (f1 : Int32) (n1 : Int32) (f2 : Int32) (n2 : Int32) (g1 : Int32) (m1 : Int32) (g2 : Int32) (m2 : Int32) (r : Int32) : entryFrame m #[(.ref t), (.ref d), (.int o), (.int o')] 4 = mkF m 0 #[.val (.ref t), .val (.ref d), .val (.int o), .val (.int o')] [] := by first | (simp [entryFrame, mkF, argsToLocals, Value.category]; done) | rfl
def own_eqk_Q (Z : State) (t : Addr) (d : Addr) (o : Int32) (o' : Int32) (k : ClassId) (tb : List Value) (kd : ClassId) (ds : List Value) (f1 : Int32) (n1 : Int32) (f2 : Int32) (n2 : Int32) (g1 : Int32) (m1 : Int32) (g2 : Int32) (m2 : Int32) (r : Int32) (h0 : Heap) (n0 : Nat) (v : Option Value) (h : Heap) (L : List Loc) : Prop := v = some (.int r) ∧ Fr n0 L ∧ h = h0
set_option maxRecDepth 65536 in
set_option maxHeartbeats 40000000 in
theorem own_eqk (l : Launch) (Z : State) (a0 : Array Value) (hw : ∀ d ∈ tables_1, d.before a0 Z = true) (ws : List Jvm.Cond) (t : Addr) (d : Addr) (o : Int32) (o' : Int32) (k : ClassId) (tb : List Value) (kd : ClassId) (ds : List Value) (f1 : Int32) (n1 : Int32) (f2 : Int32) (n2 : Int32) (g1 : Int32) (m1 : Int32) (g2 : Int32) (m2 : Int32) (r : Int32) (h0 : Heap) (n0 : Nat) (Z0 : n0 ≤ h0.size) (V_t : Arv Z h0 t k .byte (6 : Int32) tb (.int (0 : Int32))) (V_d : Arv Z h0 d kd .int (20 : Int32) ds (.int (0 : Int32))) (io0 : ¬ o < 0 ∧ o < (20 : Int32)) (vo0 : ds.getD o.toNatClampNeg (.int (0 : Int32)) = .int f1) (io1 : ¬ (o + (1 : Int32)) < 0 ∧ (o + (1 : Int32)) < (20 : Int32)) (vo1 : ds.getD (o + (1 : Int32)).toNatClampNeg (.int (0 : Int32)) = .int n1) (io2 : ¬ (o + (2 : Int32)) < 0 ∧ (o + (2 : Int32)) < (20 : Int32)) (vo2 : ds.getD (o + (2 : Int32)).toNatClampNeg (.int (0 : Int32)) = .int f2) (io3 : ¬ (o + (3 : Int32)) < 0 ∧ (o + (3 : Int32)) < (20 : Int32)) (vo3 : ds.getD (o + (3 : Int32)).toNatClampNeg (.int (0 : Int32)) = .int n2) (io'0 : ¬ o' < 0 ∧ o' < (20 : Int32)) (vo'0 : ds.getD o'.toNatClampNeg (.int (0 : Int32)) = .int g1) (io'1 : ¬ (o' + (1 : Int32)) < 0 ∧ (o' + (1 : Int32)) < (20 : Int32)) (vo'1 : ds.getD (o' + (1 : Int32)).toNatClampNeg (.int (0 : Int32)) = .int m1) (io'2 : ¬ (o' + (2 : Int32)) < 0 ∧ (o' + (2 : Int32)) < (20 : Int32)) (vo'2 : ds.getD (o' + (2 : Int32)).toNatClampNeg (.int (0 : Int32)) = .int g2) (io'3 : ¬ (o' + (3 : Int32)) < 0 ∧ (o' + (3 : Int32)) < (20 : Int32)) (vo'3 : ds.getD (o' + (3 : Int32)).toNatClampNeg (.int (0 : Int32)) = .int m2) (B1 : own_B f1 n1) (B2 : own_B f2 n2) (C1 : own_B g1 m1) (C2 : own_B g2 m2) (r01 : r = 0 ∨ r = 1) (hrr : r = 1 ↔ own_A tb f1.toNatClampNeg n1.toNatClampNeg = own_A tb g1.toNatClampNeg m1.toNatClampNeg ∧ own_A tb f2.toNatClampNeg n2.toNatClampNeg = own_A tb g2.toNatClampNeg m2.toNatClampNeg) :
    MetFree l (⟨"com/example/vestbook/vestbook/FirstCopiesNumberOfPinLaw", "eqKey", "([B[III)Z"⟩ : MethodName) (head1 (Jvm.Cond.code (⟨"com/example/vestbook/vestbook/FirstCopiesNumberOfPinLaw", "eqKey", "([B[III)Z"⟩ : MethodName) method_6_code 4 (some .boolean) :: ws) ({ frames := 1, cells := 0, slots := 0, locals := 16 } : Room)) (fun as_ U => as_ = #[(.ref t), (.ref d), (.int o), (.int o')] ∧ Z.Warmed39 U.vm ∧ U.heap = h0) (fun _ _ _ _ _ => True) (fun _ U_ o_ V_ => ∃ v_ L_, o_ = .returned v_ ∧ own_eqk_Q Z t d o o' k tb kd ds f1 n1 f2 n2 g1 m1 g2 m2 r h0 n0 v_ V_.heap L_ ∧ FrameEnd U_ o_ V_ L_ ({ frames := 1, cells := 0, slots := 0, locals := 16 } : Room).cells ({ frames := 1, cells := 0, slots := 0, locals := 16 } : Room).slots) := by
  refine MetFree.of_bodySF (plainFor_of_name own_pn0) hisR ?_
  intro p e s m args below meth c s₁ Bd hml0 hP hK
  obtain ⟨rfl, hZ, hh⟩ := hP
  have hx := Bd.exec
  have hby := Bd.bytes
  have hml : c.maxLocals = 4 := hml0
  have hown : s.vm.findClass "com/example/vestbook/vestbook/FirstCopiesNumberOfPinLaw" = some m.cls := findClass_of_methodNamed Bd.named
  have hnm := (name_of_methodNamed Bd.named Bd.method).1
  have X0 : Stand p l e ({ frames := 1, cells := 0, slots := 0, locals := 16 } : Room) s m #[(.ref t), (.ref d), (.int o), (.int o')] below meth c s₁ [] 0 0 := Stand.of_body Bd
  have e0 : s₁.heap = h0 := by rw [← hh, Bd.state]; rfl
  have N0 := Fr.nil n0
  refine own_begin (own_eqk_ef m t d o o' k tb kd ds f1 n1 f2 n2 g1 m1 g2 m2 r) ?_
  show Ends p.tables e below (s₁.setTop (mkF m 0 #[.val (.ref t), .val (.ref d), .val (.int o), .val (.int o')] [])) _
  obtain ⟨s1, s01, hs1⟩ := own_pick (own_A tb f1.toNatClampNeg n1.toNatClampNeg = own_A tb g1.toNatClampNeg m1.toNatClampNeg)
  obtain ⟨s2, s02, hs2⟩ := own_pick (own_A tb f2.toNatClampNeg n2.toNatClampNeg = own_A tb g2.toNatClampNeg m2.toNatClampNeg)
  refine s_aloadN (pc' := 1) X0.here hx (hb hby own_d12_0) rfl rfl rfl ?_
  refine s_aloadN (pc' := 2) X0.here hx (hb hby own_d12_1) rfl rfl rfl ?_
  refine s_iloadN (pc' := 3) X0.here hx (hb hby own_d12_2) rfl rfl ?_
  refine s_iaload (pc' := 4) (v := (.int f1)) X0 hx hZ e0 V_d io0 vo0 (hb hby own_d12_3) rfl ?_
  refine s_aloadN (pc' := 5) X0.here hx (hb hby own_d12_4) rfl rfl rfl ?_
  refine s_iloadN (pc' := 6) X0.here hx (hb hby own_d12_5) rfl rfl ?_
  refine s_iconst (pc' := 7) X0.here hx (v := (1 : Int32)) (hb hby own_d12_6) rfl rfl ?_
  refine s_iadd (pc' := 8) X0.here hx (hb hby own_d12_7) rfl ?_
  refine s_iaload (pc' := 9) (v := (.int n1)) X0 hx hZ e0 V_d io1 vo1 (hb hby own_d12_8) rfl ?_
  refine s_aloadN (pc' := 10) X0.here hx (hb hby own_d12_9) rfl rfl rfl ?_
  refine s_iloadN (pc' := 11) X0.here hx (hb hby own_d12_10) rfl rfl ?_
  refine s_iaload (pc' := 12) (v := (.int g1)) X0 hx hZ e0 V_d io'0 vo'0 (hb hby own_d12_11) rfl ?_
  refine s_aloadN (pc' := 13) X0.here hx (hb hby own_d12_12) rfl rfl rfl ?_
  refine s_iloadN (pc' := 14) X0.here hx (hb hby own_d12_13) rfl rfl ?_
  refine s_iconst (pc' := 15) X0.here hx (v := (1 : Int32)) (hb hby own_d12_14) rfl rfl ?_
  refine s_iadd (pc' := 16) X0.here hx (hb hby own_d12_15) rfl ?_
  refine s_iaload (pc' := 17) (v := (.int m1)) X0 hx hZ e0 V_d io'1 vo'1 (hb hby own_d12_16) rfl ?_
  refine s_callS (pc' := 20) (W := 0) X0 hx hZ  hown (hw _ (List.mem_of_getElem? (i := 72) rfl)) (hw _ (List.mem_of_getElem? (i := 73) rfl)) (hw _ (List.mem_of_getElem? (i := 4) rfl)) (hw _ (List.mem_of_getElem? (i := 74) rfl)) (by decide) e0 (own_same l Z a0 hw [] t k tb f1 n1 g1 m1 s1 h0 n0 Z0 V_t B1 C1 s01 hs1) (by rw [hml]; rfl) [(.ref t), (.int f1), (.int n1), (.int g1), (.int m1)] [] rfl (lenOf own_pd0 rfl) rfl (Nat.le_of_eq rfl) (by decide) (by decide) (by decide) (by decide) rfl (hb hby own_d12_17) fun T1 v1 Lc1 X1 hQ1 => ?_
  obtain ⟨rfl, Nq1, eh1⟩ := hQ1
  have N1 := Fr.app N0 Nq1
  show Ends p.tables e below (T1.setTop (mkF m 20 #[.val (.ref t), .val (.ref d), .val (.int o), .val (.int o')] [(.int s1)])) _
  by_cases hk1 : s1 = (0 : Int32)
  · refine s_ifYes (pc' := 54) X1.here hx (hb hby own_d12_20) ((if0 _ _).trans (teq hk1).1) (by decide) (by decide) ?_
    refine s_iconst (pc' := 55) X1.here hx (v := (0 : Int32)) (hb hby own_d12_54) rfl rfl ?_
    obtain ⟨fs, hr, hrun, hended, hW, hsame⟩ := X1.leave (v := some (.int (0 : Int32))) (fun h => by rw [Bd.returns] at h; cases h)
    refine ⟨_, _, retN X1 hx (t := .boolean) Bd.returns (by simp) (hb hby own_d12_55) hr, hrun, hended, _, _, rfl, ?_, ⟨_, rfl⟩, hW, hsame.mono (by decide) (by decide)⟩
    show own_eqk_Q Z t d o o' k tb kd ds f1 n1 f2 n2 g1 m1 g2 m2 r h0 n0 _ T1.heap _
    rw [eh1]
    exact ⟨by rw [own_r0 r01 hrr (fun q => absurd (hs1.mpr q.1) (by rw [hk1]; decide))] <;> rfl, N1, rfl⟩
  · refine s_ifNo (pc' := 23) X1.here hx (hb hby own_d12_20) ((if0 _ _).trans (feq hk1).1) rfl ?_
    refine s_aloadN (pc' := 24) X1.here hx (hb hby own_d12_23) rfl rfl rfl ?_
    refine s_aloadN (pc' := 25) X1.here hx (hb hby own_d12_24) rfl rfl rfl ?_
    refine s_iloadN (pc' := 26) X1.here hx (hb hby own_d12_25) rfl rfl ?_
    refine s_iconst (pc' := 27) X1.here hx (v := (2 : Int32)) (hb hby own_d12_26) rfl rfl ?_
    refine s_iadd (pc' := 28) X1.here hx (hb hby own_d12_27) rfl ?_
    refine s_iaload (pc' := 29) (v := (.int f2)) X1 hx hZ eh1 V_d io2 vo2 (hb hby own_d12_28) rfl ?_
    refine s_aloadN (pc' := 30) X1.here hx (hb hby own_d12_29) rfl rfl rfl ?_
    refine s_iloadN (pc' := 31) X1.here hx (hb hby own_d12_30) rfl rfl ?_
    refine s_iconst (pc' := 32) X1.here hx (v := (3 : Int32)) (hb hby own_d12_31) rfl rfl ?_
    refine s_iadd (pc' := 33) X1.here hx (hb hby own_d12_32) rfl ?_
    refine s_iaload (pc' := 34) (v := (.int n2)) X1 hx hZ eh1 V_d io3 vo3 (hb hby own_d12_33) rfl ?_
    refine s_aloadN (pc' := 35) X1.here hx (hb hby own_d12_34) rfl rfl rfl ?_
    refine s_iloadN (pc' := 36) X1.here hx (hb hby own_d12_35) rfl rfl ?_
    refine s_iconst (pc' := 37) X1.here hx (v := (2 : Int32)) (hb hby own_d12_36) rfl rfl ?_
    refine s_iadd (pc' := 38) X1.here hx (hb hby own_d12_37) rfl ?_
    refine s_iaload (pc' := 39) (v := (.int g2)) X1 hx hZ eh1 V_d io'2 vo'2 (hb hby own_d12_38) rfl ?_
    refine s_aloadN (pc' := 40) X1.here hx (hb hby own_d12_39) rfl rfl rfl ?_
    refine s_iloadN (pc' := 41) X1.here hx (hb hby own_d12_40) rfl rfl ?_
    refine s_iconst (pc' := 42) X1.here hx (v := (3 : Int32)) (hb hby own_d12_41) rfl rfl ?_
    refine s_iadd (pc' := 43) X1.here hx (hb hby own_d12_42) rfl ?_
    refine s_iaload (pc' := 44) (v := (.int m2)) X1 hx hZ eh1 V_d io'3 vo'3 (hb hby own_d12_43) rfl ?_
    refine s_callS (pc' := 47) (W := 0) X1 hx hZ  hown (hw _ (List.mem_of_getElem? (i := 72) rfl)) (hw _ (List.mem_of_getElem? (i := 73) rfl)) (hw _ (List.mem_of_getElem? (i := 4) rfl)) (hw _ (List.mem_of_getElem? (i := 74) rfl)) (by decide) eh1 (own_same l Z a0 hw [] t k tb f2 n2 g2 m2 s2 h0 n0 Z0 V_t B2 C2 s02 hs2) (by rw [hml]; rfl) [(.ref t), (.int f2), (.int n2), (.int g2), (.int m2)] [] rfl (lenOf own_pd0 rfl) rfl (Nat.le_of_eq rfl) (by decide) (by decide) (by decide) (by decide) rfl (hb hby own_d12_44) fun T2 v2 Lc2 X2 hQ2 => ?_
    obtain ⟨rfl, Nq2, eh2⟩ := hQ2
    have N2 := Fr.app N1 Nq2
    show Ends p.tables e below (T2.setTop (mkF m 47 #[.val (.ref t), .val (.ref d), .val (.int o), .val (.int o')] [(.int s2)])) _
    by_cases hk2 : s2 = (0 : Int32)
    · refine s_ifYes (pc' := 54) X2.here hx (hb hby own_d12_47) ((if0 _ _).trans (teq hk2).1) (by decide) (by decide) ?_
      refine s_iconst (pc' := 55) X2.here hx (v := (0 : Int32)) (hb hby own_d12_54) rfl rfl ?_
      obtain ⟨fs, hr, hrun, hended, hW, hsame⟩ := X2.leave (v := some (.int (0 : Int32))) (fun h => by rw [Bd.returns] at h; cases h)
      refine ⟨_, _, retN X2 hx (t := .boolean) Bd.returns (by simp) (hb hby own_d12_55) hr, hrun, hended, _, _, rfl, ?_, ⟨_, rfl⟩, hW, hsame.mono (by decide) (by decide)⟩
      show own_eqk_Q Z t d o o' k tb kd ds f1 n1 f2 n2 g1 m1 g2 m2 r h0 n0 _ T2.heap _
      rw [eh2]
      exact ⟨by rw [own_r0 r01 hrr (fun q => absurd (hs2.mpr q.2) (by rw [hk2]; decide))] <;> rfl, N2, rfl⟩
    · refine s_ifNo (pc' := 50) X2.here hx (hb hby own_d12_47) ((if0 _ _).trans (feq hk2).1) rfl ?_
      refine s_iconst (pc' := 51) X2.here hx (v := (1 : Int32)) (hb hby own_d12_50) rfl rfl ?_
      refine s_goto (pc' := 55) X2.here hx (hb hby own_d12_51) (by decide) (by decide) ?_
      have r1 : r = 1 := hrr.mpr ⟨hs1.mp (s01.resolve_left hk1), hs2.mp (s02.resolve_left hk2)⟩
      obtain ⟨fs, hr, hrun, hended, hW, hsame⟩ := X2.leave (v := some (.int (1 : Int32))) (fun h => by rw [Bd.returns] at h; cases h)
      refine ⟨_, _, retN X2 hx (t := .boolean) Bd.returns (by simp) (hb hby own_d12_55) hr, hrun, hended, _, _, rfl, ?_, ⟨_, rfl⟩, hW, hsame.mono (by decide) (by decide)⟩
      show own_eqk_Q Z t d o o' k tb kd ds f1 n1 f2 n2 g1 m1 g2 m2 r h0 n0 _ T2.heap _
      rw [eh2]
      exact ⟨by rw [r1] <;> rfl, N2, rfl⟩
def own_slot (x : Int32) : Int32 := (((x * (-1640531527 : Int32)).toUInt32 >>> ((((32 : Int32) - (6 : Int32))) &&& 31).toUInt32).toInt32)
theorem own_slotR (x : Int32) : 0 ≤ (own_slot x).toInt ∧ (own_slot x).toInt < 64 := by
  unfold own_slot
  generalize x * (-1640531527 : Int32) = y
  have h : (((((32 : Int32) - (6 : Int32))) &&& 31).toUInt32).toNat % 32 = 26 := by decide
  have h1 : (y.toUInt32 >>> ((((32 : Int32) - (6 : Int32))) &&& 31).toUInt32).toNat = y.toUInt32.toNat / 2 ^ 26 := by rw [UInt32.toNat_shiftRight, h, Nat.shiftRight_eq_div_pow]
  have h2 : y.toUInt32.toNat < 2 ^ 32 := y.toUInt32.toNat_lt
  have h3 : (y.toUInt32 >>> ((((32 : Int32) - (6 : Int32))) &&& 31).toUInt32).toNat < 64 := by rw [h1]; omega
  generalize y.toUInt32 >>> ((((32 : Int32) - (6 : Int32))) &&& 31).toUInt32 = u at h3
  have e : u.toInt32.toInt = u.toNat := by
    show (u.toBitVec).toInt = _
    rw [BitVec.toInt_eq_toNat_cond, if_pos (by show 2 * u.toNat < _; omega)]
    rfl
  rw [e]
  omega
theorem own_d7_0 : decode prog_20_method_12_code 0 = .ok (.iload_n 1, 1) := by decide +kernel
theorem own_d7_1 : decode prog_20_method_12_code 1 = .ok (.ldc 91, 2) := by decide +kernel
theorem own_d7_3 : decode prog_20_method_12_code 3 = .ok (.imul, 1) := by decide +kernel
theorem own_d7_4 : decode prog_20_method_12_code 4 = .ok (.bipush 32, 2) := by decide +kernel
theorem own_d7_6 : decode prog_20_method_12_code 6 = .ok (.aload_n 0, 1) := by decide +kernel
theorem own_d7_7 : decode prog_20_method_12_code 7 = .ok (.getfield 13, 3) := by decide +kernel
theorem own_d7_10 : decode prog_20_method_12_code 10 = .ok (.isub, 1) := by decide +kernel
theorem own_d7_11 : decode prog_20_method_12_code 11 = .ok (.iushr, 1) := by decide +kernel
theorem own_d7_12 : decode prog_20_method_12_code 12 = .ok (.ireturn, 1) := by decide +kernel
theorem own_pn1 : plainName "com/example/vestbook/vestbook/FirstCopies" = true := by first | (simp [plainName, overriddenIn]; done) | decide +kernel
theorem own_so_ef (m : MethodId) (a : Addr) (x : Int32) : entryFrame m #[(.ref a), (.int x)] 2 = mkF m 0 #[.val (.ref a), .val (.int x)] [] := by first | (simp [entryFrame, mkF, argsToLocals, Value.category]; done) | rfl
def own_so_Q (Z : State) (a : Addr) (x : Int32) (h0 : Heap) (n0 : Nat) (v : Option Value) (h : Heap) (L : List Loc) : Prop := v = some (.int (own_slot x)) ∧ Fr n0 L ∧ h = h0
set_option maxRecDepth 65536 in
set_option maxHeartbeats 40000000 in
theorem own_so (l : Launch) (Z : State) (a0 : Array Value) (hw : ∀ d ∈ tables_1, d.before a0 Z = true) (ws : List Jvm.Cond) (a : Addr) (x : Int32) (h0 : Heap) (n0 : Nat) (Z0 : n0 ≤ h0.size) (F_bits : Fld Z h0 a "com/example/vestbook/vestbook/FirstCopies" "bits" "I" (.int (6 : Int32))) :
    MetFree l (⟨"com/example/vestbook/vestbook/FirstCopies", "slotOf", "(I)I"⟩ : MethodName) (head1 (Jvm.Cond.code (⟨"com/example/vestbook/vestbook/FirstCopies", "slotOf", "(I)I"⟩ : MethodName) prog_20_method_12_code 2 (some .int) :: ws) ({ frames := 0, cells := 0, slots := 0, locals := 0 } : Room)) (fun as_ U => as_ = #[(.ref a), (.int x)] ∧ Z.Warmed39 U.vm ∧ U.heap = h0) (fun _ _ _ _ _ => True) (fun _ U_ o_ V_ => ∃ v_ L_, o_ = .returned v_ ∧ own_so_Q Z a x h0 n0 v_ V_.heap L_ ∧ FrameEnd U_ o_ V_ L_ ({ frames := 0, cells := 0, slots := 0, locals := 0 } : Room).cells ({ frames := 0, cells := 0, slots := 0, locals := 0 } : Room).slots) := by
  refine MetFree.of_bodySF (plainFor_of_name own_pn1) hisR ?_
  intro p e s m args below meth c s₁ Bd hml0 hP hK
  obtain ⟨rfl, hZ, hh⟩ := hP
  have hx := Bd.exec
  have hby := Bd.bytes
  have hml : c.maxLocals = 2 := hml0
  have hown : s.vm.findClass "com/example/vestbook/vestbook/FirstCopies" = some m.cls := findClass_of_methodNamed Bd.named
  have hnm := (name_of_methodNamed Bd.named Bd.method).1
  have X0 : Stand p l e ({ frames := 0, cells := 0, slots := 0, locals := 0 } : Room) s m #[(.ref a), (.int x)] below meth c s₁ [] 0 0 := Stand.of_body Bd
  have e0 : s₁.heap = h0 := by rw [← hh, Bd.state]; rfl
  have N0 := Fr.nil n0
  refine own_begin (own_so_ef m a x) ?_
  show Ends p.tables e below (s₁.setTop (mkF m 0 #[.val (.ref a), .val (.int x)] [])) _
  refine s_iloadN (pc' := 1) X0.here hx (hb hby own_d7_0) rfl rfl ?_
  refine s_ldcI (pc' := 3) X0 hx hZ hown (hw _ (List.mem_of_getElem? (i := 47) rfl)) (hb hby own_d7_1) rfl ?_
  refine s_imul (pc' := 4) X0.here hx (hb hby own_d7_3) rfl ?_
  refine s_bipush (pc' := 6) X0.here hx (v := (32 : Int32)) (hb hby own_d7_4) rfl rfl ?_
  refine s_aloadN (pc' := 7) X0.here hx (hb hby own_d7_6) rfl rfl rfl ?_
  refine s_getF (pc' := 10) X0 hx hZ hown (host := "") (Or.inl (hw _ (List.mem_of_getElem? (i := 17) rfl))) Via.refl e0 F_bits (hb hby own_d7_7) rfl fun T1 X1 e1 => ?_
  refine s_isub (pc' := 11) X1.here hx (hb hby own_d7_10) rfl ?_
  refine s_iushr (pc' := 12) X1.here hx (hb hby own_d7_11) rfl ?_
  obtain ⟨fs, hr, hrun, hended, hW, hsame⟩ := X1.leave (v := some (.int (((x * (-1640531527 : Int32)).toUInt32 >>> (((32 : Int32) - (6 : Int32)) &&& 31).toUInt32).toInt32))) (fun h => by rw [Bd.returns] at h; cases h)
  refine ⟨_, _, retOut X1 hx Bd.returns rfl (Or.inl ⟨rfl, Or.inl rfl, _, rfl⟩) (hb hby own_d7_12) hr, hrun, hended, _, _, rfl, ?_, ⟨_, rfl⟩, hW, hsame.mono (by decide) (by decide)⟩
  show own_so_Q Z a x h0 n0 _ T1.heap _
  rw [e1]
  exact ⟨rfl, N0, rfl⟩
def own_iv (v : Value) : Int32 := match v with
  | .int x => x
  | _ => 0
def own_hs (l : List Value) (h : Int32) : Int32 := l.foldl (fun h v => ((31 : Int32) * h) + own_iv v) h
theorem own_d6_0 : decode prog_20_method_10_code 0 = .ok (.iload_n 3, 1) := by decide +kernel
theorem own_d6_1 : decode prog_20_method_10_code 1 = .ok (.istore 4, 2) := by decide +kernel
theorem own_d6_3 : decode prog_20_method_10_code 3 = .ok (.iload_n 1, 1) := by decide +kernel
theorem own_d6_4 : decode prog_20_method_10_code 4 = .ok (.istore 5, 2) := by decide +kernel
theorem own_d6_6 : decode prog_20_method_10_code 6 = .ok (.iload 5, 2) := by decide +kernel
theorem own_d6_8 : decode prog_20_method_10_code 8 = .ok (.iload_n 2, 1) := by decide +kernel
theorem own_d6_9 : decode prog_20_method_10_code 9 = .ok (.if_icmp .ge 21, 3) := by decide +kernel
theorem own_d6_30 : decode prog_20_method_10_code 30 = .ok (.iload 4, 2) := by decide +kernel
theorem own_d6_32 : decode prog_20_method_10_code 32 = .ok (.ireturn, 1) := by decide +kernel
theorem own_d6_12 : decode prog_20_method_10_code 12 = .ok (.bipush 31, 2) := by decide +kernel
theorem own_d6_14 : decode prog_20_method_10_code 14 = .ok (.iload 4, 2) := by decide +kernel
theorem own_d6_16 : decode prog_20_method_10_code 16 = .ok (.imul, 1) := by decide +kernel
theorem own_d6_17 : decode prog_20_method_10_code 17 = .ok (.aload_n 0, 1) := by decide +kernel
theorem own_d6_18 : decode prog_20_method_10_code 18 = .ok (.iload 5, 2) := by decide +kernel
theorem own_d6_20 : decode prog_20_method_10_code 20 = .ok (.baload, 1) := by decide +kernel
theorem own_d6_21 : decode prog_20_method_10_code 21 = .ok (.iadd, 1) := by decide +kernel
theorem own_d6_22 : decode prog_20_method_10_code 22 = .ok (.istore 4, 2) := by decide +kernel
theorem own_d6_24 : decode prog_20_method_10_code 24 = .ok (.iinc 5 1, 3) := by decide +kernel
theorem own_d6_27 : decode prog_20_method_10_code 27 = .ok (.goto (-21), 3) := by decide +kernel
theorem own_hash_ef (m : MethodId) (t : Addr) (k : ClassId) (tb : List Value) (f : Int32) (n : Int32) (g : Int32) : entryFrame m #[(.ref t), (.int f), (.int (f + n)), (.int g)] 6 = mkF m 0 #[.val (.ref t), .val (.int f), .val (.int (f + n)), .val (.int g), .unset, .unset] [] := by first | (simp [entryFrame, mkF, argsToLocals, Value.category]; done) | rfl
def own_hash_Q (Z : State) (t : Addr) (k : ClassId) (tb : List Value) (f : Int32) (n : Int32) (g : Int32) (h0 : Heap) (n0 : Nat) (v : Option Value) (h : Heap) (L : List Loc) : Prop := v = some (.int (own_hs (own_A tb f.toNatClampNeg n.toNatClampNeg) g)) ∧ Fr n0 L ∧ h = h0
set_option maxRecDepth 65536 in
set_option maxHeartbeats 40000000 in
theorem own_hash (l : Launch) (Z : State) (a0 : Array Value) (hw : ∀ d ∈ tables_1, d.before a0 Z = true) (ws : List Jvm.Cond) (t : Addr) (k : ClassId) (tb : List Value) (f : Int32) (n : Int32) (g : Int32) (h0 : Heap) (n0 : Nat) (Z0 : n0 ≤ h0.size) (V_t : Arv Z h0 t k .byte (6 : Int32) tb (.int (0 : Int32))) (B1 : own_B f n) :
    MetFree l (⟨"com/example/vestbook/vestbook/FirstCopies", "hash", "([BIII)I"⟩ : MethodName) (head1 (Jvm.Cond.code (⟨"com/example/vestbook/vestbook/FirstCopies", "hash", "([BIII)I"⟩ : MethodName) prog_20_method_10_code 6 (some .int) :: ws) ({ frames := 0, cells := 0, slots := 0, locals := 0 } : Room)) (fun as_ U => as_ = #[(.ref t), (.int f), (.int (f + n)), (.int g)] ∧ Z.Warmed39 U.vm ∧ U.heap = h0) (fun _ _ _ _ _ => True) (fun _ U_ o_ V_ => ∃ v_ L_, o_ = .returned v_ ∧ own_hash_Q Z t k tb f n g h0 n0 v_ V_.heap L_ ∧ FrameEnd U_ o_ V_ L_ ({ frames := 0, cells := 0, slots := 0, locals := 0 } : Room).cells ({ frames := 0, cells := 0, slots := 0, locals := 0 } : Room).slots) := by
  refine MetFree.of_bodySF (plainFor_of_name own_pn1) hisR ?_
  intro p e s m args below meth c s₁ Bd hml0 hP hK
  obtain ⟨rfl, hZ, hh⟩ := hP
  have hx := Bd.exec
  have hby := Bd.bytes
  have hml : c.maxLocals = 6 := hml0
  have hown : s.vm.findClass "com/example/vestbook/vestbook/FirstCopies" = some m.cls := findClass_of_methodNamed Bd.named
  have hnm := (name_of_methodNamed Bd.named Bd.method).1
  have X0 : Stand p l e ({ frames := 0, cells := 0, slots := 0, locals := 0 } : Room) s m #[(.ref t), (.int f), (.int (f + n)), (.int g)] below meth c s₁ [] 0 0 := Stand.of_body Bd
  have e0 : s₁.heap = h0 := by rw [← hh, Bd.state]; rfl
  have N0 := Fr.nil n0
  refine own_begin (own_hash_ef m t k tb f n g) ?_
  show Ends p.tables e below (s₁.setTop (mkF m 0 #[.val (.ref t), .val (.int f), .val (.int (f + n)), .val (.int g), .unset, .unset] [])) _
  have zero : (0 : Int32).toInt = 0 := by decide
  have one : (1 : Int32).toInt = 1 := by decide
  have two : (2 : Int32).toInt = 2 := by decide
  have six : (6 : Int32).toInt = 6 := by decide
  have hn012 := own_n012 B1
  obtain ⟨b1, b2, b3, b4⟩ := B1
  have fa := own_add1 b1 (by omega) (k := (1 : Int32)) (by decide) (by decide)
  have fn := own_add1 b1 (by omega) b3 (by omega)
  have fb := own_add1 (f := f + (1 : Int32)) (by omega) (by omega) (k := (1 : Int32)) (by decide) (by decide)
  refine s_iloadN (pc' := 1) X0.here hx (hb hby own_d6_0) rfl rfl ?_
  refine s_istore (pc' := 3) X0.here hx (l' := #[.val (.ref t), .val (.int f), .val (.int (f + n)), .val (.int g), .val (.int g), .unset]) (hb hby own_d6_1) rfl rfl ?_
  refine s_iloadN (pc' := 4) X0.here hx (hb hby own_d6_3) rfl rfl ?_
  refine s_istore (pc' := 6) X0.here hx (l' := #[.val (.ref t), .val (.int f), .val (.int (f + n)), .val (.int g), .val (.int g), .val (.int f)]) (hb hby own_d6_4) rfl rfl ?_
  refine s_iload (pc' := 8) X0.here hx (hb hby own_d6_6) rfl rfl ?_
  refine s_iloadN (pc' := 9) X0.here hx (hb hby own_d6_8) rfl rfl ?_
  rcases hn012 with hc | hc | hc
  · have ni : n.toInt = 0 := by rw [hc]; decide
    have hk1 : ¬ (f < (f + n)) := own_nlt_ (by omega)
    refine s_icmpYes (pc' := 30) X0.here hx (hb hby own_d6_9) (flt hk1).2.1 (by decide) (by decide) ?_
    refine s_iload (pc' := 32) X0.here hx (hb hby own_d6_30) rfl rfl ?_
    obtain ⟨fs, hr, hrun, hended, hW, hsame⟩ := X0.leave (v := some (.int g)) (fun h => by rw [Bd.returns] at h; cases h)
    refine ⟨_, _, retOut X0 hx Bd.returns rfl (Or.inl ⟨rfl, Or.inl rfl, _, rfl⟩) (hb hby own_d6_32) hr, hrun, hended, _, _, rfl, ?_, ⟨_, rfl⟩, hW, hsame.mono (by decide) (by decide)⟩
    show own_hash_Q Z t k tb f n g h0 n0 _ s₁.heap _
    rw [e0]
    exact ⟨by rw [own_A0 hc] <;> rfl, N0, rfl⟩
  · have ni : n.toInt = 1 := by rw [hc]; decide
    have hk2 : f < (f + n) := own_lt_ (by omega)
    refine s_icmpNo (pc' := 12) X0.here hx (hb hby own_d6_9) (tlt hk2).2.1 rfl ?_
    refine s_bipush (pc' := 14) X0.here hx (v := (31 : Int32)) (hb hby own_d6_12) rfl rfl ?_
    refine s_iload (pc' := 16) X0.here hx (hb hby own_d6_14) rfl rfl ?_
    refine s_imul (pc' := 17) X0.here hx (hb hby own_d6_16) rfl ?_
    refine s_aloadN (pc' := 18) X0.here hx (hb hby own_d6_17) rfl rfl rfl ?_
    refine s_iload (pc' := 20) X0.here hx (hb hby own_d6_18) rfl rfl ?_
    have i0p : ¬ f < 0 := own_nlt_ (by omega)
    have i1p : f < (6 : Int32) := own_lt_ (by omega)
    obtain ⟨xp, hp⟩ := own_byteAt V_t i0p i1p
    refine s_baload (pc' := 21) (v := (.int xp)) X0 hx hZ e0 V_t ⟨i0p, i1p⟩ hp (hb hby own_d6_20) rfl ?_
    refine s_iadd (pc' := 22) X0.here hx (hb hby own_d6_21) rfl ?_
    refine s_istore (pc' := 24) X0.here hx (l' := #[.val (.ref t), .val (.int f), .val (.int (f + n)), .val (.int g), .val (.int (((31 : Int32) * g) + xp)), .val (.int f)]) (hb hby own_d6_22) rfl rfl ?_
    refine s_iinc (pc' := 27) X0.here hx (v := (1 : Int32)) (l' := #[.val (.ref t), .val (.int f), .val (.int (f + n)), .val (.int g), .val (.int (((31 : Int32) * g) + xp)), .val (.int (f + (1 : Int32)))]) (hb hby own_d6_24) rfl rfl rfl rfl ?_
    refine s_goto (pc' := 6) X0.here hx (hb hby own_d6_27) (by decide) (by decide) ?_
    refine s_iload (pc' := 8) X0.here hx (hb hby own_d6_6) rfl rfl ?_
    refine s_iloadN (pc' := 9) X0.here hx (hb hby own_d6_8) rfl rfl ?_
    have hk3 : ¬ ((f + (1 : Int32)) < (f + n)) := own_nlt_ (by omega)
    refine s_icmpYes (pc' := 30) X0.here hx (hb hby own_d6_9) (flt hk3).2.1 (by decide) (by decide) ?_
    refine s_iload (pc' := 32) X0.here hx (hb hby own_d6_30) rfl rfl ?_
    obtain ⟨fs, hr, hrun, hended, hW, hsame⟩ := X0.leave (v := some (.int (((31 : Int32) * g) + xp))) (fun h => by rw [Bd.returns] at h; cases h)
    refine ⟨_, _, retOut X0 hx Bd.returns rfl (Or.inl ⟨rfl, Or.inl rfl, _, rfl⟩) (hb hby own_d6_32) hr, hrun, hended, _, _, rfl, ?_, ⟨_, rfl⟩, hW, hsame.mono (by decide) (by decide)⟩
    show own_hash_Q Z t k tb f n g h0 n0 _ s₁.heap _
    rw [e0]
    exact ⟨by rw [own_A1 hc, hp] <;> rfl, N0, rfl⟩
  · have ni : n.toInt = 2 := by rw [hc]; decide
    have hk4 : f < (f + n) := own_lt_ (by omega)
    refine s_icmpNo (pc' := 12) X0.here hx (hb hby own_d6_9) (tlt hk4).2.1 rfl ?_
    refine s_bipush (pc' := 14) X0.here hx (v := (31 : Int32)) (hb hby own_d6_12) rfl rfl ?_
    refine s_iload (pc' := 16) X0.here hx (hb hby own_d6_14) rfl rfl ?_
    refine s_imul (pc' := 17) X0.here hx (hb hby own_d6_16) rfl ?_
    refine s_aloadN (pc' := 18) X0.here hx (hb hby own_d6_17) rfl rfl rfl ?_
    refine s_iload (pc' := 20) X0.here hx (hb hby own_d6_18) rfl rfl ?_
    have i0p : ¬ f < 0 := own_nlt_ (by omega)
    have i1p : f < (6 : Int32) := own_lt_ (by omega)
    obtain ⟨xp, hp⟩ := own_byteAt V_t i0p i1p
    refine s_baload (pc' := 21) (v := (.int xp)) X0 hx hZ e0 V_t ⟨i0p, i1p⟩ hp (hb hby own_d6_20) rfl ?_
    refine s_iadd (pc' := 22) X0.here hx (hb hby own_d6_21) rfl ?_
    refine s_istore (pc' := 24) X0.here hx (l' := #[.val (.ref t), .val (.int f), .val (.int (f + n)), .val (.int g), .val (.int (((31 : Int32) * g) + xp)), .val (.int f)]) (hb hby own_d6_22) rfl rfl ?_
    refine s_iinc (pc' := 27) X0.here hx (v := (1 : Int32)) (l' := #[.val (.ref t), .val (.int f), .val (.int (f + n)), .val (.int g), .val (.int (((31 : Int32) * g) + xp)), .val (.int (f + (1 : Int32)))]) (hb hby own_d6_24) rfl rfl rfl rfl ?_
    refine s_goto (pc' := 6) X0.here hx (hb hby own_d6_27) (by decide) (by decide) ?_
    refine s_iload (pc' := 8) X0.here hx (hb hby own_d6_6) rfl rfl ?_
    refine s_iloadN (pc' := 9) X0.here hx (hb hby own_d6_8) rfl rfl ?_
    have hk5 : (f + (1 : Int32)) < (f + n) := own_lt_ (by omega)
    refine s_icmpNo (pc' := 12) X0.here hx (hb hby own_d6_9) (tlt hk5).2.1 rfl ?_
    refine s_bipush (pc' := 14) X0.here hx (v := (31 : Int32)) (hb hby own_d6_12) rfl rfl ?_
    refine s_iload (pc' := 16) X0.here hx (hb hby own_d6_14) rfl rfl ?_
    refine s_imul (pc' := 17) X0.here hx (hb hby own_d6_16) rfl ?_
    refine s_aloadN (pc' := 18) X0.here hx (hb hby own_d6_17) rfl rfl rfl ?_
    refine s_iload (pc' := 20) X0.here hx (hb hby own_d6_18) rfl rfl ?_
    have i0q : ¬ (f + (1 : Int32)) < 0 := own_nlt_ (by omega)
    have i1q : (f + (1 : Int32)) < (6 : Int32) := own_lt_ (by omega)
    obtain ⟨xq, hq⟩ := own_byteAt V_t i0q i1q
    refine s_baload (pc' := 21) (v := (.int xq)) X0 hx hZ e0 V_t ⟨i0q, i1q⟩ hq (hb hby own_d6_20) rfl ?_
    refine s_iadd (pc' := 22) X0.here hx (hb hby own_d6_21) rfl ?_
    refine s_istore (pc' := 24) X0.here hx (l' := #[.val (.ref t), .val (.int f), .val (.int (f + n)), .val (.int g), .val (.int (((31 : Int32) * (((31 : Int32) * g) + xp)) + xq)), .val (.int (f + (1 : Int32)))]) (hb hby own_d6_22) rfl rfl ?_
    refine s_iinc (pc' := 27) X0.here hx (v := (1 : Int32)) (l' := #[.val (.ref t), .val (.int f), .val (.int (f + n)), .val (.int g), .val (.int (((31 : Int32) * (((31 : Int32) * g) + xp)) + xq)), .val (.int ((f + (1 : Int32)) + (1 : Int32)))]) (hb hby own_d6_24) rfl rfl rfl rfl ?_
    refine s_goto (pc' := 6) X0.here hx (hb hby own_d6_27) (by decide) (by decide) ?_
    refine s_iload (pc' := 8) X0.here hx (hb hby own_d6_6) rfl rfl ?_
    refine s_iloadN (pc' := 9) X0.here hx (hb hby own_d6_8) rfl rfl ?_
    have hk6 : ¬ (((f + (1 : Int32)) + (1 : Int32)) < (f + n)) := own_nlt_ (by omega)
    refine s_icmpYes (pc' := 30) X0.here hx (hb hby own_d6_9) (flt hk6).2.1 (by decide) (by decide) ?_
    refine s_iload (pc' := 32) X0.here hx (hb hby own_d6_30) rfl rfl ?_
    obtain ⟨fs, hr, hrun, hended, hW, hsame⟩ := X0.leave (v := some (.int (((31 : Int32) * (((31 : Int32) * g) + xp)) + xq))) (fun h => by rw [Bd.returns] at h; cases h)
    refine ⟨_, _, retOut X0 hx Bd.returns rfl (Or.inl ⟨rfl, Or.inl rfl, _, rfl⟩) (hb hby own_d6_32) hr, hrun, hended, _, _, rfl, ?_, ⟨_, rfl⟩, hW, hsame.mono (by decide) (by decide)⟩
    show own_hash_Q Z t k tb f n g h0 n0 _ s₁.heap _
    rw [e0]
    exact ⟨by rw [own_A2 hc, hp, show f.toNatClampNeg + 1 = (f + (1 : Int32)).toNatClampNeg from fa.2.symm, hq] <;> rfl, N0, rfl⟩
theorem own_i1 {o f j : Int32} (i : Nat) (h1 : 0 ≤ o.toInt) (h2 : o.toInt ≤ 100) (h3 : 0 ≤ f.toInt) (h4 : f.toInt ≤ 10) (hi : i ≤ 2) (hj : j.toInt = f.toInt + i) : ((o + j) - f).toInt = o.toInt + i ∧ ((o + j) - f).toNatClampNeg = o.toNatClampNeg + i := by
  have q1 := c_iadd o j
  have q2 := rng32 (o + j)
  have q3 := c_isub (o + j) f
  have q4 := rng32 ((o + j) - f)
  have e : ((o + j) - f).toInt = o.toInt + i := by omega
  have e0 : (0 : Int32).toInt = 0 := by decide
  have a := nat_of (own_nlt_ (x := o) (y := 0) (by omega))
  have b := nat_of (own_nlt_ (x := (o + j) - f) (y := 0) (by omega))
  exact ⟨e, by omega⟩
theorem own_i2 {o f j : Int32} (i : Nat) (h1 : 0 ≤ o.toInt) (h2 : o.toInt ≤ 100) (h3 : 0 ≤ f.toInt) (h4 : f.toInt ≤ 10) (hi : i ≤ 2) (hj : j.toInt = f.toInt + i) : ((o - f) + j).toInt = o.toInt + i ∧ ((o - f) + j).toNatClampNeg = o.toNatClampNeg + i := by
  have q1 := c_isub o f
  have q2 := rng32 (o - f)
  have q3 := c_iadd (o - f) j
  have q4 := rng32 ((o - f) + j)
  have e : ((o - f) + j).toInt = o.toInt + i := by omega
  have e0 : (0 : Int32).toInt = 0 := by decide
  have a := nat_of (own_nlt_ (x := o) (y := 0) (by omega))
  have b := nat_of (own_nlt_ (x := (o - f) + j) (y := 0) (by omega))
  exact ⟨e, by omega⟩
theorem own_k3 {i : Int32} (h0 : 0 ≤ i.toInt) (h1 : i.toInt ≤ 2) : ((3 : Int32) * i).toInt = 3 * i.toInt ∧ (((3 : Int32) * i) + (1 : Int32)).toInt = 3 * i.toInt + 1 ∧ (((3 : Int32) * i) + (2 : Int32)).toInt = 3 * i.toInt + 2 := by
  have e0 : (0 : Int32).toInt = 0 := by decide
  have e1 : (1 : Int32).toInt = 1 := by decide
  have e2 : (2 : Int32).toInt = 2 := by decide
  have : i.toInt = (0 : Int32).toInt ∨ i.toInt = (1 : Int32).toInt ∨ i.toInt = (2 : Int32).toInt := by omega
  rcases this with h | h | h <;> rw [Int32.toInt_inj] at h <;> subst h <;> decide
/-- entry i of the keys' array and the bytes says (A, A') -/
def own_En (K B : List Value) (kt : Int32) (i : Int32) (A A' : List Value) : Prop := ∃ off l1 l2 : Int32, K.getD ((3 : Int32) * i).toNatClampNeg (.int (0 : Int32)) = .int off ∧ K.getD (((3 : Int32) * i) + (1 : Int32)).toNatClampNeg (.int (0 : Int32)) = .int l1 ∧ K.getD (((3 : Int32) * i) + (2 : Int32)).toNatClampNeg (.int (0 : Int32)) = .int l2 ∧ 0 ≤ off.toInt ∧ 0 ≤ l1.toInt ∧ l1.toInt ≤ 2 ∧ 0 ≤ l2.toInt ∧ l2.toInt ≤ 2 ∧ off.toInt + l1.toInt + l2.toInt ≤ kt.toInt ∧ own_A B off.toNatClampNeg l1.toNatClampNeg = A ∧ own_A B (off + l1).toNatClampNeg l2.toNatClampNeg = A'
theorem own_d14_0 : decode prog_20_method_11_code 0 = .ok (.aload_n 0, 1) := by decide +kernel
theorem own_d14_1 : decode prog_20_method_11_code 1 = .ok (.getfield 21, 3) := by decide +kernel
theorem own_d14_4 : decode prog_20_method_11_code 4 = .ok (.iconst 3, 1) := by decide +kernel
theorem own_d14_5 : decode prog_20_method_11_code 5 = .ok (.iload_n 1, 1) := by decide +kernel
theorem own_d14_6 : decode prog_20_method_11_code 6 = .ok (.imul, 1) := by decide +kernel
theorem own_d14_7 : decode prog_20_method_11_code 7 = .ok (.iaload, 1) := by decide +kernel
theorem own_d14_8 : decode prog_20_method_11_code 8 = .ok (.istore 7, 2) := by decide +kernel
theorem own_d14_10 : decode prog_20_method_11_code 10 = .ok (.aload_n 0, 1) := by decide +kernel
theorem own_d14_11 : decode prog_20_method_11_code 11 = .ok (.getfield 21, 3) := by decide +kernel
theorem own_d14_14 : decode prog_20_method_11_code 14 = .ok (.iconst 3, 1) := by decide +kernel
theorem own_d14_15 : decode prog_20_method_11_code 15 = .ok (.iload_n 1, 1) := by decide +kernel
theorem own_d14_16 : decode prog_20_method_11_code 16 = .ok (.imul, 1) := by decide +kernel
theorem own_d14_17 : decode prog_20_method_11_code 17 = .ok (.iconst 1, 1) := by decide +kernel
theorem own_d14_18 : decode prog_20_method_11_code 18 = .ok (.iadd, 1) := by decide +kernel
theorem own_d14_19 : decode prog_20_method_11_code 19 = .ok (.iaload, 1) := by decide +kernel
theorem own_d14_20 : decode prog_20_method_11_code 20 = .ok (.istore 8, 2) := by decide +kernel
theorem own_d14_22 : decode prog_20_method_11_code 22 = .ok (.iload 8, 2) := by decide +kernel
theorem own_d14_24 : decode prog_20_method_11_code 24 = .ok (.iload 4, 2) := by decide +kernel
theorem own_d14_26 : decode prog_20_method_11_code 26 = .ok (.iload_n 3, 1) := by decide +kernel
theorem own_d14_27 : decode prog_20_method_11_code 27 = .ok (.isub, 1) := by decide +kernel
theorem own_d14_28 : decode prog_20_method_11_code 28 = .ok (.if_icmp .ne 21, 3) := by decide +kernel
theorem own_d14_49 : decode prog_20_method_11_code 49 = .ok (.iconst 0, 1) := by decide +kernel
theorem own_d14_50 : decode prog_20_method_11_code 50 = .ok (.ireturn, 1) := by decide +kernel
theorem own_d14_31 : decode prog_20_method_11_code 31 = .ok (.aload_n 0, 1) := by decide +kernel
theorem own_d14_32 : decode prog_20_method_11_code 32 = .ok (.getfield 21, 3) := by decide +kernel
theorem own_d14_35 : decode prog_20_method_11_code 35 = .ok (.iconst 3, 1) := by decide +kernel
theorem own_d14_36 : decode prog_20_method_11_code 36 = .ok (.iload_n 1, 1) := by decide +kernel
theorem own_d14_37 : decode prog_20_method_11_code 37 = .ok (.imul, 1) := by decide +kernel
theorem own_d14_38 : decode prog_20_method_11_code 38 = .ok (.iconst 2, 1) := by decide +kernel
theorem own_d14_39 : decode prog_20_method_11_code 39 = .ok (.iadd, 1) := by decide +kernel
theorem own_d14_40 : decode prog_20_method_11_code 40 = .ok (.iaload, 1) := by decide +kernel
theorem own_d14_41 : decode prog_20_method_11_code 41 = .ok (.iload 6, 2) := by decide +kernel
theorem own_d14_43 : decode prog_20_method_11_code 43 = .ok (.iload 5, 2) := by decide +kernel
theorem own_d14_45 : decode prog_20_method_11_code 45 = .ok (.isub, 1) := by decide +kernel
theorem own_d14_46 : decode prog_20_method_11_code 46 = .ok (.if_icmp .eq 5, 3) := by decide +kernel
theorem own_d14_51 : decode prog_20_method_11_code 51 = .ok (.aload_n 0, 1) := by decide +kernel
theorem own_d14_52 : decode prog_20_method_11_code 52 = .ok (.getfield 17, 3) := by decide +kernel
theorem own_d14_55 : decode prog_20_method_11_code 55 = .ok (.astore 9, 2) := by decide +kernel
theorem own_d14_57 : decode prog_20_method_11_code 57 = .ok (.iload_n 3, 1) := by decide +kernel
theorem own_d14_58 : decode prog_20_method_11_code 58 = .ok (.istore 10, 2) := by decide +kernel
theorem own_d14_60 : decode prog_20_method_11_code 60 = .ok (.iload 10, 2) := by decide +kernel
theorem own_d14_62 : decode prog_20_method_11_code 62 = .ok (.iload 4, 2) := by decide +kernel
theorem own_d14_64 : decode prog_20_method_11_code 64 = .ok (.if_icmp .ge 28, 3) := by decide +kernel
theorem own_d14_67 : decode prog_20_method_11_code 67 = .ok (.aload_n 2, 1) := by decide +kernel
theorem own_d14_68 : decode prog_20_method_11_code 68 = .ok (.iload 10, 2) := by decide +kernel
theorem own_d14_70 : decode prog_20_method_11_code 70 = .ok (.baload, 1) := by decide +kernel
theorem own_d14_71 : decode prog_20_method_11_code 71 = .ok (.aload 9, 2) := by decide +kernel
theorem own_d14_73 : decode prog_20_method_11_code 73 = .ok (.iload 7, 2) := by decide +kernel
theorem own_d14_75 : decode prog_20_method_11_code 75 = .ok (.iload 10, 2) := by decide +kernel
theorem own_d14_77 : decode prog_20_method_11_code 77 = .ok (.iadd, 1) := by decide +kernel
theorem own_d14_78 : decode prog_20_method_11_code 78 = .ok (.iload_n 3, 1) := by decide +kernel
theorem own_d14_79 : decode prog_20_method_11_code 79 = .ok (.isub, 1) := by decide +kernel
theorem own_d14_80 : decode prog_20_method_11_code 80 = .ok (.baload, 1) := by decide +kernel
theorem own_d14_81 : decode prog_20_method_11_code 81 = .ok (.if_icmp .eq 5, 3) := by decide +kernel
theorem own_d14_84 : decode prog_20_method_11_code 84 = .ok (.iconst 0, 1) := by decide +kernel
theorem own_d14_85 : decode prog_20_method_11_code 85 = .ok (.ireturn, 1) := by decide +kernel
theorem own_d14_86 : decode prog_20_method_11_code 86 = .ok (.iinc 10 1, 3) := by decide +kernel
theorem own_d14_89 : decode prog_20_method_11_code 89 = .ok (.goto (-29), 3) := by decide +kernel
theorem own_d14_92 : decode prog_20_method_11_code 92 = .ok (.iload 7, 2) := by decide +kernel
theorem own_d14_94 : decode prog_20_method_11_code 94 = .ok (.iload 8, 2) := by decide +kernel
theorem own_d14_96 : decode prog_20_method_11_code 96 = .ok (.iadd, 1) := by decide +kernel
theorem own_d14_97 : decode prog_20_method_11_code 97 = .ok (.iload 5, 2) := by decide +kernel
theorem own_d14_99 : decode prog_20_method_11_code 99 = .ok (.isub, 1) := by decide +kernel
theorem own_d14_100 : decode prog_20_method_11_code 100 = .ok (.istore 10, 2) := by decide +kernel
theorem own_d14_102 : decode prog_20_method_11_code 102 = .ok (.iload 5, 2) := by decide +kernel
theorem own_d14_104 : decode prog_20_method_11_code 104 = .ok (.istore 11, 2) := by decide +kernel
theorem own_d14_106 : decode prog_20_method_11_code 106 = .ok (.iload 11, 2) := by decide +kernel
theorem own_d14_108 : decode prog_20_method_11_code 108 = .ok (.iload 6, 2) := by decide +kernel
theorem own_d14_110 : decode prog_20_method_11_code 110 = .ok (.if_icmp .ge 26, 3) := by decide +kernel
theorem own_d14_136 : decode prog_20_method_11_code 136 = .ok (.iconst 1, 1) := by decide +kernel
theorem own_d14_137 : decode prog_20_method_11_code 137 = .ok (.ireturn, 1) := by decide +kernel
theorem own_d14_113 : decode prog_20_method_11_code 113 = .ok (.aload_n 2, 1) := by decide +kernel
theorem own_d14_114 : decode prog_20_method_11_code 114 = .ok (.iload 11, 2) := by decide +kernel
theorem own_d14_116 : decode prog_20_method_11_code 116 = .ok (.baload, 1) := by decide +kernel
theorem own_d14_117 : decode prog_20_method_11_code 117 = .ok (.aload 9, 2) := by decide +kernel
theorem own_d14_119 : decode prog_20_method_11_code 119 = .ok (.iload 10, 2) := by decide +kernel
theorem own_d14_121 : decode prog_20_method_11_code 121 = .ok (.iload 11, 2) := by decide +kernel
theorem own_d14_123 : decode prog_20_method_11_code 123 = .ok (.iadd, 1) := by decide +kernel
theorem own_d14_124 : decode prog_20_method_11_code 124 = .ok (.baload, 1) := by decide +kernel
theorem own_d14_125 : decode prog_20_method_11_code 125 = .ok (.if_icmp .eq 5, 3) := by decide +kernel
theorem own_d14_128 : decode prog_20_method_11_code 128 = .ok (.iconst 0, 1) := by decide +kernel
theorem own_d14_129 : decode prog_20_method_11_code 129 = .ok (.ireturn, 1) := by decide +kernel
theorem own_d14_130 : decode prog_20_method_11_code 130 = .ok (.iinc 11 1, 3) := by decide +kernel
theorem own_d14_133 : decode prog_20_method_11_code 133 = .ok (.goto (-27), 3) := by decide +kernel
theorem own_mt_ef (m : MethodId) (a : Addr) (i : Int32) (t : Addr) (k : ClassId) (tb : List Value) (f1 : Int32) (n1 : Int32) (f2 : Int32) (n2 : Int32) (ka : Addr) (kb : Addr) (kka : ClassId) (kkb : ClassId) (K : List Value) (B : List Value) (kt : Int32) (A : List Value) (A' : List Value) (r : Int32) : entryFrame m #[(.ref a), (.int i), (.ref t), (.int f1), (.int (f1 + n1)), (.int f2), (.int (f2 + n2))] 12 = mkF m 0 #[.val (.ref a), .val (.int i), .val (.ref t), .val (.int f1), .val (.int (f1 + n1)), .val (.int f2), .val (.int (f2 + n2)), .unset, .unset, .unset, .unset, .unset] [] := by first | (simp [entryFrame, mkF, argsToLocals, Value.category]; done) | rfl
def own_mt_Q (Z : State) (a : Addr) (i : Int32) (t : Addr) (k : ClassId) (tb : List Value) (f1 : Int32) (n1 : Int32) (f2 : Int32) (n2 : Int32) (ka : Addr) (kb : Addr) (kka : ClassId) (kkb : ClassId) (K : List Value) (B : List Value) (kt : Int32) (A : List Value) (A' : List Value) (r : Int32) (h0 : Heap) (n0 : Nat) (v : Option Value) (h : Heap) (L : List Loc) : Prop := v = some (.int r) ∧ Fr n0 L ∧ h = h0
set_option maxRecDepth 65536 in
set_option maxHeartbeats 40000000 in
theorem own_mt (l : Launch) (Z : State) (a0 : Array Value) (hw : ∀ d ∈ tables_1, d.before a0 Z = true) (ws : List Jvm.Cond) (a : Addr) (i : Int32) (t : Addr) (k : ClassId) (tb : List Value) (f1 : Int32) (n1 : Int32) (f2 : Int32) (n2 : Int32) (ka : Addr) (kb : Addr) (kka : ClassId) (kkb : ClassId) (K : List Value) (B : List Value) (kt : Int32) (A : List Value) (A' : List Value) (r : Int32) (h0 : Heap) (n0 : Nat) (Z0 : n0 ≤ h0.size) (V_t : Arv Z h0 t k .byte (6 : Int32) tb (.int (0 : Int32))) (F_keys : Fld Z h0 a "com/example/vestbook/vestbook/FirstCopies" "keys" "[I" (.ref ka)) (F_kb : Fld Z h0 a "com/example/vestbook/vestbook/FirstCopies" "keyBytes" "[B" (.ref kb)) (V_ka : Arv Z h0 ka kka .int (192 : Int32) K (.int (0 : Int32))) (V_kb : Arv Z h0 kb kkb .byte (64 : Int32) B (.int (0 : Int32))) (i0 : 0 ≤ i.toInt) (i2 : i.toInt ≤ 2) (kt60 : kt.toInt ≤ 60) (En : own_En K B kt i A A') (B1 : own_B f1 n1) (B2 : own_B f2 n2) (r01 : r = 0 ∨ r = 1) (hrr : r = 1 ↔ A = own_A tb f1.toNatClampNeg n1.toNatClampNeg ∧ A' = own_A tb f2.toNatClampNeg n2.toNatClampNeg) :
    MetFree l (⟨"com/example/vestbook/vestbook/FirstCopies", "matches", "(I[BIIII)Z"⟩ : MethodName) (head1 (Jvm.Cond.code (⟨"com/example/vestbook/vestbook/FirstCopies", "matches", "(I[BIIII)Z"⟩ : MethodName) prog_20_method_11_code 12 (some .boolean) :: ws) ({ frames := 0, cells := 0, slots := 0, locals := 0 } : Room)) (fun as_ U => as_ = #[(.ref a), (.int i), (.ref t), (.int f1), (.int (f1 + n1)), (.int f2), (.int (f2 + n2))] ∧ Z.Warmed39 U.vm ∧ U.heap = h0) (fun _ _ _ _ _ => True) (fun _ U_ o_ V_ => ∃ v_ L_, o_ = .returned v_ ∧ own_mt_Q Z a i t k tb f1 n1 f2 n2 ka kb kka kkb K B kt A A' r h0 n0 v_ V_.heap L_ ∧ FrameEnd U_ o_ V_ L_ ({ frames := 0, cells := 0, slots := 0, locals := 0 } : Room).cells ({ frames := 0, cells := 0, slots := 0, locals := 0 } : Room).slots) := by
  refine MetFree.of_bodySF (plainFor_of_name own_pn1) hisR ?_
  intro p e s m args below meth c s₁ Bd hml0 hP hK
  obtain ⟨rfl, hZ, hh⟩ := hP
  have hx := Bd.exec
  have hby := Bd.bytes
  have hml : c.maxLocals = 12 := hml0
  have hown : s.vm.findClass "com/example/vestbook/vestbook/FirstCopies" = some m.cls := findClass_of_methodNamed Bd.named
  have hnm := (name_of_methodNamed Bd.named Bd.method).1
  have X0 : Stand p l e ({ frames := 0, cells := 0, slots := 0, locals := 0 } : Room) s m #[(.ref a), (.int i), (.ref t), (.int f1), (.int (f1 + n1)), (.int f2), (.int (f2 + n2))] below meth c s₁ [] 0 0 := Stand.of_body Bd
  have e0 : s₁.heap = h0 := by rw [← hh, Bd.state]; rfl
  have N0 := Fr.nil n0
  refine own_begin (own_mt_ef m a i t k tb f1 n1 f2 n2 ka kb kka kkb K B kt A A' r) ?_
  show Ends p.tables e below (s₁.setTop (mkF m 0 #[.val (.ref a), .val (.int i), .val (.ref t), .val (.int f1), .val (.int (f1 + n1)), .val (.int f2), .val (.int (f2 + n2)), .unset, .unset, .unset, .unset, .unset] [])) _
  have zero : (0 : Int32).toInt = 0 := by decide
  have one : (1 : Int32).toInt = 1 := by decide
  have two : (2 : Int32).toInt = 2 := by decide
  have six : (6 : Int32).toInt = 6 := by decide
  have c192 : (192 : Int32).toInt = 192 := by decide
  have c64 : (64 : Int32).toInt = 64 := by decide
  obtain ⟨off, l1, l2, ek1, ek2, ek3, o0, l10, l12, l20, l22, okt, eA, eA'⟩ := En
  have k3 := own_k3 i0 i2
  have m1 := own_n012 B1
  have m2 := own_n012 B2
  have s1 := own_sub1 B1
  have s2 := own_sub1 B2
  obtain ⟨b1, b2, b3, b4⟩ := B1
  obtain ⟨b1', b2', b3', b4'⟩ := B2
  have fa := own_add1 b1 (by omega) (k := (1 : Int32)) (by decide) (by decide)
  have fa' := own_add1 b1' (by omega) (k := (1 : Int32)) (by decide) (by decide)
  have fn := own_add1 b1 (by omega) b3 (by omega)
  have fn' := own_add1 b1' (by omega) b3' (by omega)
  have fb := own_add1 (f := f1 + (1 : Int32)) (by omega) (by omega) (k := (1 : Int32)) (by decide) (by decide)
  have fb' := own_add1 (f := f2 + (1 : Int32)) (by omega) (by omega) (k := (1 : Int32)) (by decide) (by decide)
  have ol := own_add1 o0 (by omega) l10 (by omega)
  refine s_aloadN (pc' := 1) X0.here hx (hb hby own_d14_0) rfl rfl rfl ?_
  refine s_getF (pc' := 4) X0 hx hZ hown (host := "") (Or.inl (hw _ (List.mem_of_getElem? (i := 21) rfl))) Via.refl e0 F_keys (hb hby own_d14_1) rfl fun T1 X1 e1 => ?_
  refine s_iconst (pc' := 5) X1.here hx (v := (3 : Int32)) (hb hby own_d14_4) rfl rfl ?_
  refine s_iloadN (pc' := 6) X1.here hx (hb hby own_d14_5) rfl rfl ?_
  refine s_imul (pc' := 7) X1.here hx (hb hby own_d14_6) rfl ?_
  refine s_iaload (pc' := 8) (v := (.int off)) X1 hx hZ e1 V_ka ⟨own_nlt_ (by omega), own_lt_ (by omega)⟩ ek1 (hb hby own_d14_7) rfl ?_
  refine s_istore (pc' := 10) X1.here hx (l' := #[.val (.ref a), .val (.int i), .val (.ref t), .val (.int f1), .val (.int (f1 + n1)), .val (.int f2), .val (.int (f2 + n2)), .val (.int off), .unset, .unset, .unset, .unset]) (hb hby own_d14_8) rfl rfl ?_
  refine s_aloadN (pc' := 11) X1.here hx (hb hby own_d14_10) rfl rfl rfl ?_
  refine s_getF (pc' := 14) X1 hx hZ hown (host := "") (Or.inl (hw _ (List.mem_of_getElem? (i := 21) rfl))) Via.refl e1 F_keys (hb hby own_d14_11) rfl fun T2 X2 e2 => ?_
  refine s_iconst (pc' := 15) X2.here hx (v := (3 : Int32)) (hb hby own_d14_14) rfl rfl ?_
  refine s_iloadN (pc' := 16) X2.here hx (hb hby own_d14_15) rfl rfl ?_
  refine s_imul (pc' := 17) X2.here hx (hb hby own_d14_16) rfl ?_
  refine s_iconst (pc' := 18) X2.here hx (v := (1 : Int32)) (hb hby own_d14_17) rfl rfl ?_
  refine s_iadd (pc' := 19) X2.here hx (hb hby own_d14_18) rfl ?_
  refine s_iaload (pc' := 20) (v := (.int l1)) X2 hx hZ e2 V_ka ⟨own_nlt_ (by omega), own_lt_ (by omega)⟩ ek2 (hb hby own_d14_19) rfl ?_
  refine s_istore (pc' := 22) X2.here hx (l' := #[.val (.ref a), .val (.int i), .val (.ref t), .val (.int f1), .val (.int (f1 + n1)), .val (.int f2), .val (.int (f2 + n2)), .val (.int off), .val (.int l1), .unset, .unset, .unset]) (hb hby own_d14_20) rfl rfl ?_
  refine s_iload (pc' := 24) X2.here hx (hb hby own_d14_22) rfl rfl ?_
  refine s_iload (pc' := 26) X2.here hx (hb hby own_d14_24) rfl rfl ?_
  refine s_iloadN (pc' := 27) X2.here hx (hb hby own_d14_26) rfl rfl ?_
  refine s_isub (pc' := 28) X2.here hx (hb hby own_d14_27) rfl ?_
  by_cases hl1 : l1 = ((f1 + n1) - f1)
  · refine s_icmpNo (pc' := 31) X2.here hx (hb hby own_d14_28) (teq hl1).2 rfl ?_
    rw [s1] at hl1
    refine s_aloadN (pc' := 32) X2.here hx (hb hby own_d14_31) rfl rfl rfl ?_
    refine s_getF (pc' := 35) X2 hx hZ hown (host := "") (Or.inl (hw _ (List.mem_of_getElem? (i := 21) rfl))) Via.refl e2 F_keys (hb hby own_d14_32) rfl fun T3 X3 e3 => ?_
    refine s_iconst (pc' := 36) X3.here hx (v := (3 : Int32)) (hb hby own_d14_35) rfl rfl ?_
    refine s_iloadN (pc' := 37) X3.here hx (hb hby own_d14_36) rfl rfl ?_
    refine s_imul (pc' := 38) X3.here hx (hb hby own_d14_37) rfl ?_
    refine s_iconst (pc' := 39) X3.here hx (v := (2 : Int32)) (hb hby own_d14_38) rfl rfl ?_
    refine s_iadd (pc' := 40) X3.here hx (hb hby own_d14_39) rfl ?_
    refine s_iaload (pc' := 41) (v := (.int l2)) X3 hx hZ e3 V_ka ⟨own_nlt_ (by omega), own_lt_ (by omega)⟩ ek3 (hb hby own_d14_40) rfl ?_
    refine s_iload (pc' := 43) X3.here hx (hb hby own_d14_41) rfl rfl ?_
    refine s_iload (pc' := 45) X3.here hx (hb hby own_d14_43) rfl rfl ?_
    refine s_isub (pc' := 46) X3.here hx (hb hby own_d14_45) rfl ?_
    by_cases hl2 : l2 = ((f2 + n2) - f2)
    · refine s_icmpYes (pc' := 51) X3.here hx (hb hby own_d14_46) (teq hl2).1 (by decide) (by decide) ?_
      rw [s2] at hl2
      refine s_aloadN (pc' := 52) X3.here hx (hb hby own_d14_51) rfl rfl rfl ?_
      refine s_getF (pc' := 55) X3 hx hZ hown (host := "") (Or.inl (hw _ (List.mem_of_getElem? (i := 19) rfl))) Via.refl e3 F_kb (hb hby own_d14_52) rfl fun T4 X4 e4 => ?_
      refine s_astore (pc' := 57) X4.here hx (l' := #[.val (.ref a), .val (.int i), .val (.ref t), .val (.int f1), .val (.int (f1 + n1)), .val (.int f2), .val (.int (f2 + n2)), .val (.int off), .val (.int l1), .val (.ref kb), .unset, .unset]) (hb hby own_d14_55) rfl rfl rfl ?_
      refine s_iloadN (pc' := 58) X4.here hx (hb hby own_d14_57) rfl rfl ?_
      refine s_istore (pc' := 60) X4.here hx (l' := #[.val (.ref a), .val (.int i), .val (.ref t), .val (.int f1), .val (.int (f1 + n1)), .val (.int f2), .val (.int (f2 + n2)), .val (.int off), .val (.int l1), .val (.ref kb), .val (.int f1), .unset]) (hb hby own_d14_58) rfl rfl ?_
      refine own_join (α := Int32) (fun jj => T4.setTop (mkF m 92 #[.val (.ref a), .val (.int i), .val (.ref t), .val (.int f1), .val (.int (f1 + n1)), .val (.int f2), .val (.int (f2 + n2)), .val (.int off), .val (.int l1), .val (.ref kb), .val (.int jj), .unset] [])) (fun jj => own_A B off.toNatClampNeg l1.toNatClampNeg = own_A tb f1.toNatClampNeg n1.toNatClampNeg) (fun key => ?_) ?_
      · rcases m1 with hc | hc | hc
        · have hcl : l1 = 0 := hl1.trans hc
          have nI : n1.toInt = 0 := by rw [hc]; decide
          refine s_iload (pc' := 62) X4.here hx (hb hby own_d14_60) rfl rfl ?_
          refine s_iload (pc' := 64) X4.here hx (hb hby own_d14_62) rfl rfl ?_
          have hk5 : ¬ (f1 < (f1 + n1)) := own_nlt_ (by omega)
          refine s_icmpYes (pc' := 92) X4.here hx (hb hby own_d14_64) (flt hk5).2.1 (by decide) (by decide) ?_
          exact key (f1) (by rw [own_A0 hcl, own_A0 hc])
        · have hcl : l1 = 1 := hl1.trans hc
          have nI : n1.toInt = 1 := by rw [hc]; decide
          refine s_iload (pc' := 62) X4.here hx (hb hby own_d14_60) rfl rfl ?_
          refine s_iload (pc' := 64) X4.here hx (hb hby own_d14_62) rfl rfl ?_
          have hk6 : f1 < (f1 + n1) := own_lt_ (by omega)
          refine s_icmpNo (pc' := 67) X4.here hx (hb hby own_d14_64) (tlt hk6).2.1 rfl ?_
          refine s_aloadN (pc' := 68) X4.here hx (hb hby own_d14_67) rfl rfl rfl ?_
          refine s_iload (pc' := 70) X4.here hx (hb hby own_d14_68) rfl rfl ?_
          have i0p : ¬ f1 < 0 := own_nlt_ (by omega)
          have i1p : f1 < (6 : Int32) := own_lt_ (by omega)
          obtain ⟨xp, hp⟩ := own_byteAt V_t i0p i1p
          refine s_baload (pc' := 71) (v := (.int xp)) X4 hx hZ e4 V_t ⟨i0p, i1p⟩ hp (hb hby own_d14_70) rfl ?_
          refine s_aload (pc' := 73) X4.here hx (hb hby own_d14_71) rfl rfl rfl ?_
          refine s_iload (pc' := 75) X4.here hx (hb hby own_d14_73) rfl rfl ?_
          refine s_iload (pc' := 77) X4.here hx (hb hby own_d14_75) rfl rfl ?_
          refine s_iadd (pc' := 78) X4.here hx (hb hby own_d14_77) rfl ?_
          refine s_iloadN (pc' := 79) X4.here hx (hb hby own_d14_78) rfl rfl ?_
          refine s_isub (pc' := 80) X4.here hx (hb hby own_d14_79) rfl ?_
          have ixp := own_i1 (o := off) (f := f1) (j := f1) 0 (by omega) (by omega) (by omega) (by omega) (by omega) (by omega)
          have j0p : ¬ ((off + f1) - f1) < 0 := own_nlt_ (by omega)
          have j1p : ((off + f1) - f1) < (64 : Int32) := own_lt_ (by omega)
          obtain ⟨yp, gp⟩ := own_byteAt V_kb j0p j1p
          rw [ixp.2, Nat.add_zero] at gp
          refine s_baload (pc' := 81) (v := (.int yp)) X4 hx hZ e4 V_kb ⟨j0p, j1p⟩ (by rw [ixp.2, Nat.add_zero]; exact gp) (hb hby own_d14_80) rfl ?_
          by_cases hx0 : xp = yp
          · refine s_icmpYes (pc' := 86) X4.here hx (hb hby own_d14_81) (teq hx0).1 (by decide) (by decide) ?_
            refine s_iinc (pc' := 89) X4.here hx (v := (1 : Int32)) (l' := #[.val (.ref a), .val (.int i), .val (.ref t), .val (.int f1), .val (.int (f1 + n1)), .val (.int f2), .val (.int (f2 + n2)), .val (.int off), .val (.int l1), .val (.ref kb), .val (.int (f1 + (1 : Int32))), .unset]) (hb hby own_d14_86) rfl rfl rfl rfl ?_
            refine s_goto (pc' := 60) X4.here hx (hb hby own_d14_89) (by decide) (by decide) ?_
            refine s_iload (pc' := 62) X4.here hx (hb hby own_d14_60) rfl rfl ?_
            refine s_iload (pc' := 64) X4.here hx (hb hby own_d14_62) rfl rfl ?_
            have hk7 : ¬ ((f1 + (1 : Int32)) < (f1 + n1)) := own_nlt_ (by omega)
            refine s_icmpYes (pc' := 92) X4.here hx (hb hby own_d14_64) (flt hk7).2.1 (by decide) (by decide) ?_
            exact key ((f1 + (1 : Int32))) (by rw [own_A1 hcl, own_A1 hc, hp, gp, hx0])
          · refine s_icmpNo (pc' := 84) X4.here hx (hb hby own_d14_81) (feq hx0).1 rfl ?_
            refine s_iconst (pc' := 85) X4.here hx (v := (0 : Int32)) (hb hby own_d14_84) rfl rfl ?_
            obtain ⟨fs, hr, hrun, hended, hW, hsame⟩ := X4.leave (v := some (.int (0 : Int32))) (fun h => by rw [Bd.returns] at h; cases h)
            refine ⟨_, _, retN X4 hx (t := .boolean) Bd.returns (by simp) (hb hby own_d14_85) hr, hrun, hended, _, _, rfl, ?_, ⟨_, rfl⟩, hW, hsame.mono (by decide) (by decide)⟩
            show own_mt_Q Z a i t k tb f1 n1 f2 n2 ka kb kka kkb K B kt A A' r h0 n0 _ T4.heap _
            rw [e4]
            exact ⟨by rw [own_r0 r01 hrr (fun q => by have q' := (show own_A B off.toNatClampNeg l1.toNatClampNeg = own_A tb f1.toNatClampNeg n1.toNatClampNeg from eA.trans q.1); rw [own_A1 hcl, own_A1 hc, hp, gp] at q'; exact hx0 (by simpa using (q').symm))] <;> rfl, N0, rfl⟩
        · have hcl : l1 = 2 := hl1.trans hc
          have nI : n1.toInt = 2 := by rw [hc]; decide
          refine s_iload (pc' := 62) X4.here hx (hb hby own_d14_60) rfl rfl ?_
          refine s_iload (pc' := 64) X4.here hx (hb hby own_d14_62) rfl rfl ?_
          have hk8 : f1 < (f1 + n1) := own_lt_ (by omega)
          refine s_icmpNo (pc' := 67) X4.here hx (hb hby own_d14_64) (tlt hk8).2.1 rfl ?_
          refine s_aloadN (pc' := 68) X4.here hx (hb hby own_d14_67) rfl rfl rfl ?_
          refine s_iload (pc' := 70) X4.here hx (hb hby own_d14_68) rfl rfl ?_
          have i0p : ¬ f1 < 0 := own_nlt_ (by omega)
          have i1p : f1 < (6 : Int32) := own_lt_ (by omega)
          obtain ⟨xp, hp⟩ := own_byteAt V_t i0p i1p
          refine s_baload (pc' := 71) (v := (.int xp)) X4 hx hZ e4 V_t ⟨i0p, i1p⟩ hp (hb hby own_d14_70) rfl ?_
          refine s_aload (pc' := 73) X4.here hx (hb hby own_d14_71) rfl rfl rfl ?_
          refine s_iload (pc' := 75) X4.here hx (hb hby own_d14_73) rfl rfl ?_
          refine s_iload (pc' := 77) X4.here hx (hb hby own_d14_75) rfl rfl ?_
          refine s_iadd (pc' := 78) X4.here hx (hb hby own_d14_77) rfl ?_
          refine s_iloadN (pc' := 79) X4.here hx (hb hby own_d14_78) rfl rfl ?_
          refine s_isub (pc' := 80) X4.here hx (hb hby own_d14_79) rfl ?_
          have ixp := own_i1 (o := off) (f := f1) (j := f1) 0 (by omega) (by omega) (by omega) (by omega) (by omega) (by omega)
          have j0p : ¬ ((off + f1) - f1) < 0 := own_nlt_ (by omega)
          have j1p : ((off + f1) - f1) < (64 : Int32) := own_lt_ (by omega)
          obtain ⟨yp, gp⟩ := own_byteAt V_kb j0p j1p
          rw [ixp.2, Nat.add_zero] at gp
          refine s_baload (pc' := 81) (v := (.int yp)) X4 hx hZ e4 V_kb ⟨j0p, j1p⟩ (by rw [ixp.2, Nat.add_zero]; exact gp) (hb hby own_d14_80) rfl ?_
          by_cases hx0 : xp = yp
          · refine s_icmpYes (pc' := 86) X4.here hx (hb hby own_d14_81) (teq hx0).1 (by decide) (by decide) ?_
            refine s_iinc (pc' := 89) X4.here hx (v := (1 : Int32)) (l' := #[.val (.ref a), .val (.int i), .val (.ref t), .val (.int f1), .val (.int (f1 + n1)), .val (.int f2), .val (.int (f2 + n2)), .val (.int off), .val (.int l1), .val (.ref kb), .val (.int (f1 + (1 : Int32))), .unset]) (hb hby own_d14_86) rfl rfl rfl rfl ?_
            refine s_goto (pc' := 60) X4.here hx (hb hby own_d14_89) (by decide) (by decide) ?_
            refine s_iload (pc' := 62) X4.here hx (hb hby own_d14_60) rfl rfl ?_
            refine s_iload (pc' := 64) X4.here hx (hb hby own_d14_62) rfl rfl ?_
            have hk9 : (f1 + (1 : Int32)) < (f1 + n1) := own_lt_ (by omega)
            refine s_icmpNo (pc' := 67) X4.here hx (hb hby own_d14_64) (tlt hk9).2.1 rfl ?_
            refine s_aloadN (pc' := 68) X4.here hx (hb hby own_d14_67) rfl rfl rfl ?_
            refine s_iload (pc' := 70) X4.here hx (hb hby own_d14_68) rfl rfl ?_
            have i0q : ¬ (f1 + (1 : Int32)) < 0 := own_nlt_ (by omega)
            have i1q : (f1 + (1 : Int32)) < (6 : Int32) := own_lt_ (by omega)
            obtain ⟨xq, hq⟩ := own_byteAt V_t i0q i1q
            refine s_baload (pc' := 71) (v := (.int xq)) X4 hx hZ e4 V_t ⟨i0q, i1q⟩ hq (hb hby own_d14_70) rfl ?_
            refine s_aload (pc' := 73) X4.here hx (hb hby own_d14_71) rfl rfl rfl ?_
            refine s_iload (pc' := 75) X4.here hx (hb hby own_d14_73) rfl rfl ?_
            refine s_iload (pc' := 77) X4.here hx (hb hby own_d14_75) rfl rfl ?_
            refine s_iadd (pc' := 78) X4.here hx (hb hby own_d14_77) rfl ?_
            refine s_iloadN (pc' := 79) X4.here hx (hb hby own_d14_78) rfl rfl ?_
            refine s_isub (pc' := 80) X4.here hx (hb hby own_d14_79) rfl ?_
            have ixq := own_i1 (o := off) (f := f1) (j := (f1 + (1 : Int32))) 1 (by omega) (by omega) (by omega) (by omega) (by omega) (by omega)
            have j0q : ¬ ((off + (f1 + (1 : Int32))) - f1) < 0 := own_nlt_ (by omega)
            have j1q : ((off + (f1 + (1 : Int32))) - f1) < (64 : Int32) := own_lt_ (by omega)
            obtain ⟨yq, gq⟩ := own_byteAt V_kb j0q j1q
            rw [ixq.2] at gq
            refine s_baload (pc' := 81) (v := (.int yq)) X4 hx hZ e4 V_kb ⟨j0q, j1q⟩ (by rw [ixq.2]; exact gq) (hb hby own_d14_80) rfl ?_
            by_cases hx1 : xq = yq
            · refine s_icmpYes (pc' := 86) X4.here hx (hb hby own_d14_81) (teq hx1).1 (by decide) (by decide) ?_
              refine s_iinc (pc' := 89) X4.here hx (v := (1 : Int32)) (l' := #[.val (.ref a), .val (.int i), .val (.ref t), .val (.int f1), .val (.int (f1 + n1)), .val (.int f2), .val (.int (f2 + n2)), .val (.int off), .val (.int l1), .val (.ref kb), .val (.int ((f1 + (1 : Int32)) + (1 : Int32))), .unset]) (hb hby own_d14_86) rfl rfl rfl rfl ?_
              refine s_goto (pc' := 60) X4.here hx (hb hby own_d14_89) (by decide) (by decide) ?_
              refine s_iload (pc' := 62) X4.here hx (hb hby own_d14_60) rfl rfl ?_
              refine s_iload (pc' := 64) X4.here hx (hb hby own_d14_62) rfl rfl ?_
              have hk10 : ¬ (((f1 + (1 : Int32)) + (1 : Int32)) < (f1 + n1)) := own_nlt_ (by omega)
              refine s_icmpYes (pc' := 92) X4.here hx (hb hby own_d14_64) (flt hk10).2.1 (by decide) (by decide) ?_
              exact key (((f1 + (1 : Int32)) + (1 : Int32))) (by rw [own_A2 hcl, own_A2 hc, show f1.toNatClampNeg + 1 = (f1 + (1 : Int32)).toNatClampNeg from fa.2.symm, hp, hq, gp, gq, hx0, hx1])
            · refine s_icmpNo (pc' := 84) X4.here hx (hb hby own_d14_81) (feq hx1).1 rfl ?_
              refine s_iconst (pc' := 85) X4.here hx (v := (0 : Int32)) (hb hby own_d14_84) rfl rfl ?_
              obtain ⟨fs, hr, hrun, hended, hW, hsame⟩ := X4.leave (v := some (.int (0 : Int32))) (fun h => by rw [Bd.returns] at h; cases h)
              refine ⟨_, _, retN X4 hx (t := .boolean) Bd.returns (by simp) (hb hby own_d14_85) hr, hrun, hended, _, _, rfl, ?_, ⟨_, rfl⟩, hW, hsame.mono (by decide) (by decide)⟩
              show own_mt_Q Z a i t k tb f1 n1 f2 n2 ka kb kka kkb K B kt A A' r h0 n0 _ T4.heap _
              rw [e4]
              exact ⟨by rw [own_r0 r01 hrr (fun q => by have q' := (show own_A B off.toNatClampNeg l1.toNatClampNeg = own_A tb f1.toNatClampNeg n1.toNatClampNeg from eA.trans q.1); rw [own_A2 hcl, own_A2 hc, show f1.toNatClampNeg + 1 = (f1 + (1 : Int32)).toNatClampNeg from fa.2.symm, hp, hq, gp, gq] at q'; exact hx1 (by simpa using ((List.cons.inj q').2).symm))] <;> rfl, N0, rfl⟩
          · refine s_icmpNo (pc' := 84) X4.here hx (hb hby own_d14_81) (feq hx0).1 rfl ?_
            refine s_iconst (pc' := 85) X4.here hx (v := (0 : Int32)) (hb hby own_d14_84) rfl rfl ?_
            obtain ⟨fs, hr, hrun, hended, hW, hsame⟩ := X4.leave (v := some (.int (0 : Int32))) (fun h => by rw [Bd.returns] at h; cases h)
            refine ⟨_, _, retN X4 hx (t := .boolean) Bd.returns (by simp) (hb hby own_d14_85) hr, hrun, hended, _, _, rfl, ?_, ⟨_, rfl⟩, hW, hsame.mono (by decide) (by decide)⟩
            show own_mt_Q Z a i t k tb f1 n1 f2 n2 ka kb kka kkb K B kt A A' r h0 n0 _ T4.heap _
            rw [e4]
            exact ⟨by rw [own_r0 r01 hrr (fun q => by have q' := (show own_A B off.toNatClampNeg l1.toNatClampNeg = own_A tb f1.toNatClampNeg n1.toNatClampNeg from eA.trans q.1); rw [own_A2 hcl, own_A2 hc, show f1.toNatClampNeg + 1 = (f1 + (1 : Int32)).toNatClampNeg from fa.2.symm, hp, gp] at q'; exact hx0 (by simpa using ((List.cons.inj q').1).symm))] <;> rfl, N0, rfl⟩
      · rintro jj hE1
        try dsimp only at hE1
        try dsimp only
        show Ends p.tables e below (T4.setTop (mkF m 92 #[.val (.ref a), .val (.int i), .val (.ref t), .val (.int f1), .val (.int (f1 + n1)), .val (.int f2), .val (.int (f2 + n2)), .val (.int off), .val (.int l1), .val (.ref kb), .val (.int jj), .unset] [])) _
        refine s_iload (pc' := 94) X4.here hx (hb hby own_d14_92) rfl rfl ?_
        refine s_iload (pc' := 96) X4.here hx (hb hby own_d14_94) rfl rfl ?_
        refine s_iadd (pc' := 97) X4.here hx (hb hby own_d14_96) rfl ?_
        refine s_iload (pc' := 99) X4.here hx (hb hby own_d14_97) rfl rfl ?_
        refine s_isub (pc' := 100) X4.here hx (hb hby own_d14_99) rfl ?_
        refine s_istore (pc' := 102) X4.here hx (l' := #[.val (.ref a), .val (.int i), .val (.ref t), .val (.int f1), .val (.int (f1 + n1)), .val (.int f2), .val (.int (f2 + n2)), .val (.int off), .val (.int l1), .val (.ref kb), .val (.int ((off + l1) - f2)), .unset]) (hb hby own_d14_100) rfl rfl ?_
        refine s_iload (pc' := 104) X4.here hx (hb hby own_d14_102) rfl rfl ?_
        refine s_istore (pc' := 106) X4.here hx (l' := #[.val (.ref a), .val (.int i), .val (.ref t), .val (.int f1), .val (.int (f1 + n1)), .val (.int f2), .val (.int (f2 + n2)), .val (.int off), .val (.int l1), .val (.ref kb), .val (.int ((off + l1) - f2)), .val (.int f2)]) (hb hby own_d14_104) rfl rfl ?_
        rcases m2 with hc | hc | hc
        · have hcl : l2 = 0 := hl2.trans hc
          have nI : n2.toInt = 0 := by rw [hc]; decide
          refine s_iload (pc' := 108) X4.here hx (hb hby own_d14_106) rfl rfl ?_
          refine s_iload (pc' := 110) X4.here hx (hb hby own_d14_108) rfl rfl ?_
          have hk11 : ¬ (f2 < (f2 + n2)) := own_nlt_ (by omega)
          refine s_icmpYes (pc' := 136) X4.here hx (hb hby own_d14_110) (flt hk11).2.1 (by decide) (by decide) ?_
          have hE2 : own_A B (off + l1).toNatClampNeg l2.toNatClampNeg = own_A tb f2.toNatClampNeg n2.toNatClampNeg := (by rw [own_A0 hcl, own_A0 hc])
          have r1 : r = 1 := hrr.mpr ⟨eA.symm.trans hE1, eA'.symm.trans hE2⟩
          refine s_iconst (pc' := 137) X4.here hx (v := (1 : Int32)) (hb hby own_d14_136) rfl rfl ?_
          obtain ⟨fs, hr, hrun, hended, hW, hsame⟩ := X4.leave (v := some (.int (1 : Int32))) (fun h => by rw [Bd.returns] at h; cases h)
          refine ⟨_, _, retN X4 hx (t := .boolean) Bd.returns (by simp) (hb hby own_d14_137) hr, hrun, hended, _, _, rfl, ?_, ⟨_, rfl⟩, hW, hsame.mono (by decide) (by decide)⟩
          show own_mt_Q Z a i t k tb f1 n1 f2 n2 ka kb kka kkb K B kt A A' r h0 n0 _ T4.heap _
          rw [e4]
          exact ⟨by rw [r1] <;> rfl, N0, rfl⟩
        · have hcl : l2 = 1 := hl2.trans hc
          have nI : n2.toInt = 1 := by rw [hc]; decide
          refine s_iload (pc' := 108) X4.here hx (hb hby own_d14_106) rfl rfl ?_
          refine s_iload (pc' := 110) X4.here hx (hb hby own_d14_108) rfl rfl ?_
          have hk12 : f2 < (f2 + n2) := own_lt_ (by omega)
          refine s_icmpNo (pc' := 113) X4.here hx (hb hby own_d14_110) (tlt hk12).2.1 rfl ?_
          refine s_aloadN (pc' := 114) X4.here hx (hb hby own_d14_113) rfl rfl rfl ?_
          refine s_iload (pc' := 116) X4.here hx (hb hby own_d14_114) rfl rfl ?_
          have i0p : ¬ f2 < 0 := own_nlt_ (by omega)
          have i1p : f2 < (6 : Int32) := own_lt_ (by omega)
          obtain ⟨xp, hp⟩ := own_byteAt V_t i0p i1p
          refine s_baload (pc' := 117) (v := (.int xp)) X4 hx hZ e4 V_t ⟨i0p, i1p⟩ hp (hb hby own_d14_116) rfl ?_
          refine s_aload (pc' := 119) X4.here hx (hb hby own_d14_117) rfl rfl rfl ?_
          refine s_iload (pc' := 121) X4.here hx (hb hby own_d14_119) rfl rfl ?_
          refine s_iload (pc' := 123) X4.here hx (hb hby own_d14_121) rfl rfl ?_
          refine s_iadd (pc' := 124) X4.here hx (hb hby own_d14_123) rfl ?_
          have ixp := own_i2 (o := (off + l1)) (f := f2) (j := f2) 0 (by omega) (by omega) (by omega) (by omega) (by omega) (by omega)
          have j0p : ¬ (((off + l1) - f2) + f2) < 0 := own_nlt_ (by omega)
          have j1p : (((off + l1) - f2) + f2) < (64 : Int32) := own_lt_ (by omega)
          obtain ⟨yp, gp⟩ := own_byteAt V_kb j0p j1p
          rw [ixp.2, Nat.add_zero] at gp
          refine s_baload (pc' := 125) (v := (.int yp)) X4 hx hZ e4 V_kb ⟨j0p, j1p⟩ (by rw [ixp.2, Nat.add_zero]; exact gp) (hb hby own_d14_124) rfl ?_
          by_cases hx0 : xp = yp
          · refine s_icmpYes (pc' := 130) X4.here hx (hb hby own_d14_125) (teq hx0).1 (by decide) (by decide) ?_
            refine s_iinc (pc' := 133) X4.here hx (v := (1 : Int32)) (l' := #[.val (.ref a), .val (.int i), .val (.ref t), .val (.int f1), .val (.int (f1 + n1)), .val (.int f2), .val (.int (f2 + n2)), .val (.int off), .val (.int l1), .val (.ref kb), .val (.int ((off + l1) - f2)), .val (.int (f2 + (1 : Int32)))]) (hb hby own_d14_130) rfl rfl rfl rfl ?_
            refine s_goto (pc' := 106) X4.here hx (hb hby own_d14_133) (by decide) (by decide) ?_
            refine s_iload (pc' := 108) X4.here hx (hb hby own_d14_106) rfl rfl ?_
            refine s_iload (pc' := 110) X4.here hx (hb hby own_d14_108) rfl rfl ?_
            have hk13 : ¬ ((f2 + (1 : Int32)) < (f2 + n2)) := own_nlt_ (by omega)
            refine s_icmpYes (pc' := 136) X4.here hx (hb hby own_d14_110) (flt hk13).2.1 (by decide) (by decide) ?_
            have hE2 : own_A B (off + l1).toNatClampNeg l2.toNatClampNeg = own_A tb f2.toNatClampNeg n2.toNatClampNeg := (by rw [own_A1 hcl, own_A1 hc, hp, gp, hx0])
            have r1 : r = 1 := hrr.mpr ⟨eA.symm.trans hE1, eA'.symm.trans hE2⟩
            refine s_iconst (pc' := 137) X4.here hx (v := (1 : Int32)) (hb hby own_d14_136) rfl rfl ?_
            obtain ⟨fs, hr, hrun, hended, hW, hsame⟩ := X4.leave (v := some (.int (1 : Int32))) (fun h => by rw [Bd.returns] at h; cases h)
            refine ⟨_, _, retN X4 hx (t := .boolean) Bd.returns (by simp) (hb hby own_d14_137) hr, hrun, hended, _, _, rfl, ?_, ⟨_, rfl⟩, hW, hsame.mono (by decide) (by decide)⟩
            show own_mt_Q Z a i t k tb f1 n1 f2 n2 ka kb kka kkb K B kt A A' r h0 n0 _ T4.heap _
            rw [e4]
            exact ⟨by rw [r1] <;> rfl, N0, rfl⟩
          · refine s_icmpNo (pc' := 128) X4.here hx (hb hby own_d14_125) (feq hx0).1 rfl ?_
            refine s_iconst (pc' := 129) X4.here hx (v := (0 : Int32)) (hb hby own_d14_128) rfl rfl ?_
            obtain ⟨fs, hr, hrun, hended, hW, hsame⟩ := X4.leave (v := some (.int (0 : Int32))) (fun h => by rw [Bd.returns] at h; cases h)
            refine ⟨_, _, retN X4 hx (t := .boolean) Bd.returns (by simp) (hb hby own_d14_129) hr, hrun, hended, _, _, rfl, ?_, ⟨_, rfl⟩, hW, hsame.mono (by decide) (by decide)⟩
            show own_mt_Q Z a i t k tb f1 n1 f2 n2 ka kb kka kkb K B kt A A' r h0 n0 _ T4.heap _
            rw [e4]
            exact ⟨by rw [own_r0 r01 hrr (fun q => by have q' := (show own_A B (off + l1).toNatClampNeg l2.toNatClampNeg = own_A tb f2.toNatClampNeg n2.toNatClampNeg from eA'.trans q.2); rw [own_A1 hcl, own_A1 hc, hp, gp] at q'; exact hx0 (by simpa using (q').symm))] <;> rfl, N0, rfl⟩
        · have hcl : l2 = 2 := hl2.trans hc
          have nI : n2.toInt = 2 := by rw [hc]; decide
          refine s_iload (pc' := 108) X4.here hx (hb hby own_d14_106) rfl rfl ?_
          refine s_iload (pc' := 110) X4.here hx (hb hby own_d14_108) rfl rfl ?_
          have hk14 : f2 < (f2 + n2) := own_lt_ (by omega)
          refine s_icmpNo (pc' := 113) X4.here hx (hb hby own_d14_110) (tlt hk14).2.1 rfl ?_
          refine s_aloadN (pc' := 114) X4.here hx (hb hby own_d14_113) rfl rfl rfl ?_
          refine s_iload (pc' := 116) X4.here hx (hb hby own_d14_114) rfl rfl ?_
          have i0p : ¬ f2 < 0 := own_nlt_ (by omega)
          have i1p : f2 < (6 : Int32) := own_lt_ (by omega)
          obtain ⟨xp, hp⟩ := own_byteAt V_t i0p i1p
          refine s_baload (pc' := 117) (v := (.int xp)) X4 hx hZ e4 V_t ⟨i0p, i1p⟩ hp (hb hby own_d14_116) rfl ?_
          refine s_aload (pc' := 119) X4.here hx (hb hby own_d14_117) rfl rfl rfl ?_
          refine s_iload (pc' := 121) X4.here hx (hb hby own_d14_119) rfl rfl ?_
          refine s_iload (pc' := 123) X4.here hx (hb hby own_d14_121) rfl rfl ?_
          refine s_iadd (pc' := 124) X4.here hx (hb hby own_d14_123) rfl ?_
          have ixp := own_i2 (o := (off + l1)) (f := f2) (j := f2) 0 (by omega) (by omega) (by omega) (by omega) (by omega) (by omega)
          have j0p : ¬ (((off + l1) - f2) + f2) < 0 := own_nlt_ (by omega)
          have j1p : (((off + l1) - f2) + f2) < (64 : Int32) := own_lt_ (by omega)
          obtain ⟨yp, gp⟩ := own_byteAt V_kb j0p j1p
          rw [ixp.2, Nat.add_zero] at gp
          refine s_baload (pc' := 125) (v := (.int yp)) X4 hx hZ e4 V_kb ⟨j0p, j1p⟩ (by rw [ixp.2, Nat.add_zero]; exact gp) (hb hby own_d14_124) rfl ?_
          by_cases hx0 : xp = yp
          · refine s_icmpYes (pc' := 130) X4.here hx (hb hby own_d14_125) (teq hx0).1 (by decide) (by decide) ?_
            refine s_iinc (pc' := 133) X4.here hx (v := (1 : Int32)) (l' := #[.val (.ref a), .val (.int i), .val (.ref t), .val (.int f1), .val (.int (f1 + n1)), .val (.int f2), .val (.int (f2 + n2)), .val (.int off), .val (.int l1), .val (.ref kb), .val (.int ((off + l1) - f2)), .val (.int (f2 + (1 : Int32)))]) (hb hby own_d14_130) rfl rfl rfl rfl ?_
            refine s_goto (pc' := 106) X4.here hx (hb hby own_d14_133) (by decide) (by decide) ?_
            refine s_iload (pc' := 108) X4.here hx (hb hby own_d14_106) rfl rfl ?_
            refine s_iload (pc' := 110) X4.here hx (hb hby own_d14_108) rfl rfl ?_
            have hk15 : (f2 + (1 : Int32)) < (f2 + n2) := own_lt_ (by omega)
            refine s_icmpNo (pc' := 113) X4.here hx (hb hby own_d14_110) (tlt hk15).2.1 rfl ?_
            refine s_aloadN (pc' := 114) X4.here hx (hb hby own_d14_113) rfl rfl rfl ?_
            refine s_iload (pc' := 116) X4.here hx (hb hby own_d14_114) rfl rfl ?_
            have i0q : ¬ (f2 + (1 : Int32)) < 0 := own_nlt_ (by omega)
            have i1q : (f2 + (1 : Int32)) < (6 : Int32) := own_lt_ (by omega)
            obtain ⟨xq, hq⟩ := own_byteAt V_t i0q i1q
            refine s_baload (pc' := 117) (v := (.int xq)) X4 hx hZ e4 V_t ⟨i0q, i1q⟩ hq (hb hby own_d14_116) rfl ?_
            refine s_aload (pc' := 119) X4.here hx (hb hby own_d14_117) rfl rfl rfl ?_
            refine s_iload (pc' := 121) X4.here hx (hb hby own_d14_119) rfl rfl ?_
            refine s_iload (pc' := 123) X4.here hx (hb hby own_d14_121) rfl rfl ?_
            refine s_iadd (pc' := 124) X4.here hx (hb hby own_d14_123) rfl ?_
            have ixq := own_i2 (o := (off + l1)) (f := f2) (j := (f2 + (1 : Int32))) 1 (by omega) (by omega) (by omega) (by omega) (by omega) (by omega)
            have j0q : ¬ (((off + l1) - f2) + (f2 + (1 : Int32))) < 0 := own_nlt_ (by omega)
            have j1q : (((off + l1) - f2) + (f2 + (1 : Int32))) < (64 : Int32) := own_lt_ (by omega)
            obtain ⟨yq, gq⟩ := own_byteAt V_kb j0q j1q
            rw [ixq.2] at gq
            refine s_baload (pc' := 125) (v := (.int yq)) X4 hx hZ e4 V_kb ⟨j0q, j1q⟩ (by rw [ixq.2]; exact gq) (hb hby own_d14_124) rfl ?_
            by_cases hx1 : xq = yq
            · refine s_icmpYes (pc' := 130) X4.here hx (hb hby own_d14_125) (teq hx1).1 (by decide) (by decide) ?_
              refine s_iinc (pc' := 133) X4.here hx (v := (1 : Int32)) (l' := #[.val (.ref a), .val (.int i), .val (.ref t), .val (.int f1), .val (.int (f1 + n1)), .val (.int f2), .val (.int (f2 + n2)), .val (.int off), .val (.int l1), .val (.ref kb), .val (.int ((off + l1) - f2)), .val (.int ((f2 + (1 : Int32)) + (1 : Int32)))]) (hb hby own_d14_130) rfl rfl rfl rfl ?_
              refine s_goto (pc' := 106) X4.here hx (hb hby own_d14_133) (by decide) (by decide) ?_
              refine s_iload (pc' := 108) X4.here hx (hb hby own_d14_106) rfl rfl ?_
              refine s_iload (pc' := 110) X4.here hx (hb hby own_d14_108) rfl rfl ?_
              have hk16 : ¬ (((f2 + (1 : Int32)) + (1 : Int32)) < (f2 + n2)) := own_nlt_ (by omega)
              refine s_icmpYes (pc' := 136) X4.here hx (hb hby own_d14_110) (flt hk16).2.1 (by decide) (by decide) ?_
              have hE2 : own_A B (off + l1).toNatClampNeg l2.toNatClampNeg = own_A tb f2.toNatClampNeg n2.toNatClampNeg := (by rw [own_A2 hcl, own_A2 hc, show f2.toNatClampNeg + 1 = (f2 + (1 : Int32)).toNatClampNeg from fa'.2.symm, hp, hq, gp, gq, hx0, hx1])
              have r1 : r = 1 := hrr.mpr ⟨eA.symm.trans hE1, eA'.symm.trans hE2⟩
              refine s_iconst (pc' := 137) X4.here hx (v := (1 : Int32)) (hb hby own_d14_136) rfl rfl ?_
              obtain ⟨fs, hr, hrun, hended, hW, hsame⟩ := X4.leave (v := some (.int (1 : Int32))) (fun h => by rw [Bd.returns] at h; cases h)
              refine ⟨_, _, retN X4 hx (t := .boolean) Bd.returns (by simp) (hb hby own_d14_137) hr, hrun, hended, _, _, rfl, ?_, ⟨_, rfl⟩, hW, hsame.mono (by decide) (by decide)⟩
              show own_mt_Q Z a i t k tb f1 n1 f2 n2 ka kb kka kkb K B kt A A' r h0 n0 _ T4.heap _
              rw [e4]
              exact ⟨by rw [r1] <;> rfl, N0, rfl⟩
            · refine s_icmpNo (pc' := 128) X4.here hx (hb hby own_d14_125) (feq hx1).1 rfl ?_
              refine s_iconst (pc' := 129) X4.here hx (v := (0 : Int32)) (hb hby own_d14_128) rfl rfl ?_
              obtain ⟨fs, hr, hrun, hended, hW, hsame⟩ := X4.leave (v := some (.int (0 : Int32))) (fun h => by rw [Bd.returns] at h; cases h)
              refine ⟨_, _, retN X4 hx (t := .boolean) Bd.returns (by simp) (hb hby own_d14_129) hr, hrun, hended, _, _, rfl, ?_, ⟨_, rfl⟩, hW, hsame.mono (by decide) (by decide)⟩
              show own_mt_Q Z a i t k tb f1 n1 f2 n2 ka kb kka kkb K B kt A A' r h0 n0 _ T4.heap _
              rw [e4]
              exact ⟨by rw [own_r0 r01 hrr (fun q => by have q' := (show own_A B (off + l1).toNatClampNeg l2.toNatClampNeg = own_A tb f2.toNatClampNeg n2.toNatClampNeg from eA'.trans q.2); rw [own_A2 hcl, own_A2 hc, show f2.toNatClampNeg + 1 = (f2 + (1 : Int32)).toNatClampNeg from fa'.2.symm, hp, hq, gp, gq] at q'; exact hx1 (by simpa using ((List.cons.inj q').2).symm))] <;> rfl, N0, rfl⟩
          · refine s_icmpNo (pc' := 128) X4.here hx (hb hby own_d14_125) (feq hx0).1 rfl ?_
            refine s_iconst (pc' := 129) X4.here hx (v := (0 : Int32)) (hb hby own_d14_128) rfl rfl ?_
            obtain ⟨fs, hr, hrun, hended, hW, hsame⟩ := X4.leave (v := some (.int (0 : Int32))) (fun h => by rw [Bd.returns] at h; cases h)
            refine ⟨_, _, retN X4 hx (t := .boolean) Bd.returns (by simp) (hb hby own_d14_129) hr, hrun, hended, _, _, rfl, ?_, ⟨_, rfl⟩, hW, hsame.mono (by decide) (by decide)⟩
            show own_mt_Q Z a i t k tb f1 n1 f2 n2 ka kb kka kkb K B kt A A' r h0 n0 _ T4.heap _
            rw [e4]
            exact ⟨by rw [own_r0 r01 hrr (fun q => by have q' := (show own_A B (off + l1).toNatClampNeg l2.toNatClampNeg = own_A tb f2.toNatClampNeg n2.toNatClampNeg from eA'.trans q.2); rw [own_A2 hcl, own_A2 hc, show f2.toNatClampNeg + 1 = (f2 + (1 : Int32)).toNatClampNeg from fa'.2.symm, hp, gp] at q'; exact hx0 (by simpa using ((List.cons.inj q').1).symm))] <;> rfl, N0, rfl⟩
    · refine s_icmpNo (pc' := 49) X3.here hx (hb hby own_d14_46) (feq hl2).1 rfl ?_
      refine s_iconst (pc' := 50) X3.here hx (v := (0 : Int32)) (hb hby own_d14_49) rfl rfl ?_
      obtain ⟨fs, hr, hrun, hended, hW, hsame⟩ := X3.leave (v := some (.int (0 : Int32))) (fun h => by rw [Bd.returns] at h; cases h)
      refine ⟨_, _, retN X3 hx (t := .boolean) Bd.returns (by simp) (hb hby own_d14_50) hr, hrun, hended, _, _, rfl, ?_, ⟨_, rfl⟩, hW, hsame.mono (by decide) (by decide)⟩
      show own_mt_Q Z a i t k tb f1 n1 f2 n2 ka kb kka kkb K B kt A A' r h0 n0 _ T3.heap _
      rw [e3]
      exact ⟨by rw [own_r0 r01 hrr (fun q => hl2 ((own_An l20 b3' (eA'.trans q.2)).trans s2.symm))] <;> rfl, N0, rfl⟩
  · refine s_icmpYes (pc' := 49) X2.here hx (hb hby own_d14_28) (feq hl1).2 (by decide) (by decide) ?_
    refine s_iconst (pc' := 50) X2.here hx (v := (0 : Int32)) (hb hby own_d14_49) rfl rfl ?_
    obtain ⟨fs, hr, hrun, hended, hW, hsame⟩ := X2.leave (v := some (.int (0 : Int32))) (fun h => by rw [Bd.returns] at h; cases h)
    refine ⟨_, _, retN X2 hx (t := .boolean) Bd.returns (by simp) (hb hby own_d14_50) hr, hrun, hended, _, _, rfl, ?_, ⟨_, rfl⟩, hW, hsame.mono (by decide) (by decide)⟩
    show own_mt_Q Z a i t k tb f1 n1 f2 n2 ka kb kka kkb K B kt A A' r h0 n0 _ T2.heap _
    rw [e2]
    exact ⟨by rw [own_r0 r01 hrr (fun q => hl1 ((own_An l10 b3 (eA.trans q.1)).trans s1.symm))] <;> rfl, N0, rfl⟩
theorem own_fb (x : Int32) : own_B (((x &&& (255 : Int32)) % (15 : Int32)) % (5 : Int32)) (((x &&& (255 : Int32)) % (15 : Int32)) / (5 : Int32)) := by
  have h1 := c_mask x 255 8 (by decide) (by decide)
  have h2 := (c_irem (x &&& (255 : Int32)) 15 15 (by decide)).1 (by omega)
  generalize (x &&& (255 : Int32)) % (15 : Int32) = v at h2
  have h3 := (c_irem v 5 5 (by decide)).1 (by omega)
  have h4 := (c_idiv v 5 5 (by decide) (by decide)).1 (by omega)
  refine ⟨?_, ?_, ?_, ?_⟩ <;> omega
theorem own_d1_0 : decode method_3_code 0 = .ok (.iload_n 2, 1) := by decide +kernel
theorem own_d1_1 : decode method_3_code 1 = .ok (.sipush 255, 3) := by decide +kernel
theorem own_d1_4 : decode method_3_code 4 = .ok (.iand, 1) := by decide +kernel
theorem own_d1_5 : decode method_3_code 5 = .ok (.bipush 15, 2) := by decide +kernel
theorem own_d1_7 : decode method_3_code 7 = .ok (.irem, 1) := by decide +kernel
theorem own_d1_8 : decode method_3_code 8 = .ok (.istore_n 3, 1) := by decide +kernel
theorem own_d1_9 : decode method_3_code 9 = .ok (.iload_n 2, 1) := by decide +kernel
theorem own_d1_10 : decode method_3_code 10 = .ok (.bipush 8, 2) := by decide +kernel
theorem own_d1_12 : decode method_3_code 12 = .ok (.iushr, 1) := by decide +kernel
theorem own_d1_13 : decode method_3_code 13 = .ok (.sipush 255, 3) := by decide +kernel
theorem own_d1_16 : decode method_3_code 16 = .ok (.iand, 1) := by decide +kernel
theorem own_d1_17 : decode method_3_code 17 = .ok (.bipush 15, 2) := by decide +kernel
theorem own_d1_19 : decode method_3_code 19 = .ok (.irem, 1) := by decide +kernel
theorem own_d1_20 : decode method_3_code 20 = .ok (.istore 4, 2) := by decide +kernel
theorem own_d1_22 : decode method_3_code 22 = .ok (.aload_n 0, 1) := by decide +kernel
theorem own_d1_23 : decode method_3_code 23 = .ok (.iload_n 1, 1) := by decide +kernel
theorem own_d1_24 : decode method_3_code 24 = .ok (.iload_n 3, 1) := by decide +kernel
theorem own_d1_25 : decode method_3_code 25 = .ok (.iconst 5, 1) := by decide +kernel
theorem own_d1_26 : decode method_3_code 26 = .ok (.irem, 1) := by decide +kernel
theorem own_d1_27 : decode method_3_code 27 = .ok (.iastore, 1) := by decide +kernel
theorem own_d1_28 : decode method_3_code 28 = .ok (.aload_n 0, 1) := by decide +kernel
theorem own_d1_29 : decode method_3_code 29 = .ok (.iload_n 1, 1) := by decide +kernel
theorem own_d1_30 : decode method_3_code 30 = .ok (.iconst 1, 1) := by decide +kernel
theorem own_d1_31 : decode method_3_code 31 = .ok (.iadd, 1) := by decide +kernel
theorem own_d1_32 : decode method_3_code 32 = .ok (.iload_n 3, 1) := by decide +kernel
theorem own_d1_33 : decode method_3_code 33 = .ok (.iconst 5, 1) := by decide +kernel
theorem own_d1_34 : decode method_3_code 34 = .ok (.idiv, 1) := by decide +kernel
theorem own_d1_35 : decode method_3_code 35 = .ok (.iastore, 1) := by decide +kernel
theorem own_d1_36 : decode method_3_code 36 = .ok (.aload_n 0, 1) := by decide +kernel
theorem own_d1_37 : decode method_3_code 37 = .ok (.iload_n 1, 1) := by decide +kernel
theorem own_d1_38 : decode method_3_code 38 = .ok (.iconst 2, 1) := by decide +kernel
theorem own_d1_39 : decode method_3_code 39 = .ok (.iadd, 1) := by decide +kernel
theorem own_d1_40 : decode method_3_code 40 = .ok (.iload 4, 2) := by decide +kernel
theorem own_d1_42 : decode method_3_code 42 = .ok (.iconst 5, 1) := by decide +kernel
theorem own_d1_43 : decode method_3_code 43 = .ok (.irem, 1) := by decide +kernel
theorem own_d1_44 : decode method_3_code 44 = .ok (.iastore, 1) := by decide +kernel
theorem own_d1_45 : decode method_3_code 45 = .ok (.aload_n 0, 1) := by decide +kernel
theorem own_d1_46 : decode method_3_code 46 = .ok (.iload_n 1, 1) := by decide +kernel
theorem own_d1_47 : decode method_3_code 47 = .ok (.iconst 3, 1) := by decide +kernel
theorem own_d1_48 : decode method_3_code 48 = .ok (.iadd, 1) := by decide +kernel
theorem own_d1_49 : decode method_3_code 49 = .ok (.iload 4, 2) := by decide +kernel
theorem own_d1_51 : decode method_3_code 51 = .ok (.iconst 5, 1) := by decide +kernel
theorem own_d1_52 : decode method_3_code 52 = .ok (.idiv, 1) := by decide +kernel
theorem own_d1_53 : decode method_3_code 53 = .ok (.iastore, 1) := by decide +kernel
theorem own_d1_54 : decode method_3_code 54 = .ok (.return_, 1) := by decide +kernel
theorem own_fill0_ef (m : MethodId) (d : Addr) (x : Int32) (kd : ClassId) (ds : List Value) : entryFrame m #[(.ref d), (.int (0 : Int32)), (.int x)] 5 = mkF m 0 #[.val (.ref d), .val (.int (0 : Int32)), .val (.int x), .unset, .unset] [] := by first | (simp [entryFrame, mkF, argsToLocals, Value.category]; done) | rfl
def own_fill0_Q (Z : State) (d : Addr) (x : Int32) (kd : ClassId) (ds : List Value) (h0 : Heap) (n0 : Nat) (v : Option Value) (h : Heap) (L : List Loc) : Prop := v = none ∧ Fr n0 L ∧ Keep h0 h [d] ∧ Arv Z h d kd .int (20 : Int32) ((((ds.set 0 (.int (((x &&& (255 : Int32)) % (15 : Int32)) % (5 : Int32)))).set 1 (.int (((x &&& (255 : Int32)) % (15 : Int32)) / (5 : Int32)))).set 2 (.int (((((x.toUInt32 >>> ((8 : Int32) &&& 31).toUInt32).toInt32) &&& (255 : Int32)) % (15 : Int32)) % (5 : Int32)))).set 3 (.int (((((x.toUInt32 >>> ((8 : Int32) &&& 31).toUInt32).toInt32) &&& (255 : Int32)) % (15 : Int32)) / (5 : Int32)))) (.int (0 : Int32))
set_option maxRecDepth 65536 in
set_option maxHeartbeats 40000000 in
theorem own_fill0 (l : Launch) (Z : State) (a0 : Array Value) (hw : ∀ d ∈ tables_1, d.before a0 Z = true) (ws : List Jvm.Cond) (d : Addr) (x : Int32) (kd : ClassId) (ds : List Value) (h0 : Heap) (n0 : Nat) (Z0 : n0 ≤ h0.size) (V_d : Arv Z h0 d kd .int (20 : Int32) ds (.int (0 : Int32))) (g_d : n0 ≤ d) (dl : ds.length = 20) :
    MetFree l (⟨"com/example/vestbook/vestbook/FirstCopiesNumberOfPinLaw", "fill", "([III)V"⟩ : MethodName) (head1 (Jvm.Cond.code (⟨"com/example/vestbook/vestbook/FirstCopiesNumberOfPinLaw", "fill", "([III)V"⟩ : MethodName) method_3_code 5 none :: ws) ({ frames := 0, cells := 0, slots := 0, locals := 0 } : Room)) (fun as_ U => as_ = #[(.ref d), (.int (0 : Int32)), (.int x)] ∧ Z.Warmed39 U.vm ∧ U.heap = h0) (fun _ _ _ _ _ => True) (fun _ U_ o_ V_ => ∃ v_ L_, o_ = .returned v_ ∧ own_fill0_Q Z d x kd ds h0 n0 v_ V_.heap L_ ∧ FrameEnd U_ o_ V_ L_ ({ frames := 0, cells := 0, slots := 0, locals := 0 } : Room).cells ({ frames := 0, cells := 0, slots := 0, locals := 0 } : Room).slots) := by
  refine MetFree.of_bodySF (plainFor_of_name own_pn0) hisR ?_
  intro p e s m args below meth c s₁ Bd hml0 hP hK
  obtain ⟨rfl, hZ, hh⟩ := hP
  have hx := Bd.exec
  have hby := Bd.bytes
  have hml : c.maxLocals = 5 := hml0
  have hown : s.vm.findClass "com/example/vestbook/vestbook/FirstCopiesNumberOfPinLaw" = some m.cls := findClass_of_methodNamed Bd.named
  have hnm := (name_of_methodNamed Bd.named Bd.method).1
  have X0 : Stand p l e ({ frames := 0, cells := 0, slots := 0, locals := 0 } : Room) s m #[(.ref d), (.int (0 : Int32)), (.int x)] below meth c s₁ [] 0 0 := Stand.of_body Bd
  have e0 : s₁.heap = h0 := by rw [← hh, Bd.state]; rfl
  have N0 := Fr.nil n0
  refine own_begin (own_fill0_ef m d x kd ds) ?_
  show Ends p.tables e below (s₁.setTop (mkF m 0 #[.val (.ref d), .val (.int (0 : Int32)), .val (.int x), .unset, .unset] [])) _
  have Kr0 : Keep h0 h0 [d] := Keep.refl h0 _
  refine s_iloadN (pc' := 1) X0.here hx (hb hby own_d1_0) rfl rfl ?_
  refine s_sipush (pc' := 4) X0.here hx (v := (255 : Int32)) (hb hby own_d1_1) rfl rfl ?_
  refine s_iand (pc' := 5) X0.here hx (hb hby own_d1_4) rfl ?_
  refine s_bipush (pc' := 7) X0.here hx (v := (15 : Int32)) (hb hby own_d1_5) rfl rfl ?_
  refine s_irem (pc' := 8) X0 hx (hb hby own_d1_7) (by decide) rfl ?_
  refine s_istoreN (pc' := 9) X0.here hx (l' := #[.val (.ref d), .val (.int (0 : Int32)), .val (.int x), .val (.int ((x &&& (255 : Int32)) % (15 : Int32))), .unset]) (hb hby own_d1_8) rfl rfl ?_
  refine s_iloadN (pc' := 10) X0.here hx (hb hby own_d1_9) rfl rfl ?_
  refine s_bipush (pc' := 12) X0.here hx (v := (8 : Int32)) (hb hby own_d1_10) rfl rfl ?_
  refine s_iushr (pc' := 13) X0.here hx (hb hby own_d1_12) rfl ?_
  refine s_sipush (pc' := 16) X0.here hx (v := (255 : Int32)) (hb hby own_d1_13) rfl rfl ?_
  refine s_iand (pc' := 17) X0.here hx (hb hby own_d1_16) rfl ?_
  refine s_bipush (pc' := 19) X0.here hx (v := (15 : Int32)) (hb hby own_d1_17) rfl rfl ?_
  refine s_irem (pc' := 20) X0 hx (hb hby own_d1_19) (by decide) rfl ?_
  refine s_istore (pc' := 22) X0.here hx (l' := #[.val (.ref d), .val (.int (0 : Int32)), .val (.int x), .val (.int ((x &&& (255 : Int32)) % (15 : Int32))), .val (.int ((((x.toUInt32 >>> ((8 : Int32) &&& 31).toUInt32).toInt32) &&& (255 : Int32)) % (15 : Int32)))]) (hb hby own_d1_20) rfl rfl ?_
  refine s_aloadN (pc' := 23) X0.here hx (hb hby own_d1_22) rfl rfl rfl ?_
  refine s_iloadN (pc' := 24) X0.here hx (hb hby own_d1_23) rfl rfl ?_
  refine s_iloadN (pc' := 25) X0.here hx (hb hby own_d1_24) rfl rfl ?_
  refine s_iconst (pc' := 26) X0.here hx (v := (5 : Int32)) (hb hby own_d1_25) rfl rfl ?_
  refine s_irem (pc' := 27) X0 hx (hb hby own_d1_26) (by decide) rfl ?_
  refine s_putI (pc' := 28) X0 hx hZ e0 V_d ⟨by decide, by decide⟩ 0 rfl (by simp only [List.length_set, dl]; decide) (hb hby own_d1_27) rfl fun T1 hp1 X1 e1 W1 Vw1 => ?_
  have V2 : Arv Z hp1 d kd .int (20 : Int32) (ds.set 0 (.int (((x &&& (255 : Int32)) % (15 : Int32)) % (5 : Int32)))) (.int (0 : Int32)) := Vw1
  have N1 := Fr.snoc X1 N0 g_d
  have Z3 : n0 ≤ hp1.size := Nat.le_trans Z0 (Keep.of_wr W1).1
  have K4 : Keep h0 hp1 [d] := Kr0.wr W1 (Or.inl (List.mem_of_getElem? (i := 0) rfl))
  refine s_aloadN (pc' := 29) X1.here hx (hb hby own_d1_28) rfl rfl rfl ?_
  refine s_iloadN (pc' := 30) X1.here hx (hb hby own_d1_29) rfl rfl ?_
  refine s_iconst (pc' := 31) X1.here hx (v := (1 : Int32)) (hb hby own_d1_30) rfl rfl ?_
  refine s_iadd (pc' := 32) X1.here hx (hb hby own_d1_31) rfl ?_
  refine s_iloadN (pc' := 33) X1.here hx (hb hby own_d1_32) rfl rfl ?_
  refine s_iconst (pc' := 34) X1.here hx (v := (5 : Int32)) (hb hby own_d1_33) rfl rfl ?_
  refine s_idiv (pc' := 35) X1.here hx (hb hby own_d1_34) (by decide) rfl ?_
  refine s_putI (pc' := 36) X1 hx hZ e1 V2 ⟨by decide, by decide⟩ 1 (by decide) (by simp only [List.length_set, dl]; decide) (hb hby own_d1_35) rfl fun T5 hp5 X5 e5 W5 Vw5 => ?_
  have V6 : Arv Z hp5 d kd .int (20 : Int32) ((ds.set 0 (.int (((x &&& (255 : Int32)) % (15 : Int32)) % (5 : Int32)))).set 1 (.int (((x &&& (255 : Int32)) % (15 : Int32)) / (5 : Int32)))) (.int (0 : Int32)) := Vw5
  have N5 := Fr.snoc X5 N1 g_d
  have Z7 : n0 ≤ hp5.size := Nat.le_trans Z3 (Keep.of_wr W5).1
  have K8 : Keep h0 hp5 [d] := K4.wr W5 (Or.inl (List.mem_of_getElem? (i := 0) rfl))
  refine s_aloadN (pc' := 37) X5.here hx (hb hby own_d1_36) rfl rfl rfl ?_
  refine s_iloadN (pc' := 38) X5.here hx (hb hby own_d1_37) rfl rfl ?_
  refine s_iconst (pc' := 39) X5.here hx (v := (2 : Int32)) (hb hby own_d1_38) rfl rfl ?_
  refine s_iadd (pc' := 40) X5.here hx (hb hby own_d1_39) rfl ?_
  refine s_iload (pc' := 42) X5.here hx (hb hby own_d1_40) rfl rfl ?_
  refine s_iconst (pc' := 43) X5.here hx (v := (5 : Int32)) (hb hby own_d1_42) rfl rfl ?_
  refine s_irem (pc' := 44) X5 hx (hb hby own_d1_43) (by decide) rfl ?_
  refine s_putI (pc' := 45) X5 hx hZ e5 V6 ⟨by decide, by decide⟩ 2 (by decide) (by simp only [List.length_set, dl]; decide) (hb hby own_d1_44) rfl fun T9 hp9 X9 e9 W9 Vw9 => ?_
  have V10 : Arv Z hp9 d kd .int (20 : Int32) (((ds.set 0 (.int (((x &&& (255 : Int32)) % (15 : Int32)) % (5 : Int32)))).set 1 (.int (((x &&& (255 : Int32)) % (15 : Int32)) / (5 : Int32)))).set 2 (.int (((((x.toUInt32 >>> ((8 : Int32) &&& 31).toUInt32).toInt32) &&& (255 : Int32)) % (15 : Int32)) % (5 : Int32)))) (.int (0 : Int32)) := Vw9
  have N9 := Fr.snoc X9 N5 g_d
  have Z11 : n0 ≤ hp9.size := Nat.le_trans Z7 (Keep.of_wr W9).1
  have K12 : Keep h0 hp9 [d] := K8.wr W9 (Or.inl (List.mem_of_getElem? (i := 0) rfl))
  refine s_aloadN (pc' := 46) X9.here hx (hb hby own_d1_45) rfl rfl rfl ?_
  refine s_iloadN (pc' := 47) X9.here hx (hb hby own_d1_46) rfl rfl ?_
  refine s_iconst (pc' := 48) X9.here hx (v := (3 : Int32)) (hb hby own_d1_47) rfl rfl ?_
  refine s_iadd (pc' := 49) X9.here hx (hb hby own_d1_48) rfl ?_
  refine s_iload (pc' := 51) X9.here hx (hb hby own_d1_49) rfl rfl ?_
  refine s_iconst (pc' := 52) X9.here hx (v := (5 : Int32)) (hb hby own_d1_51) rfl rfl ?_
  refine s_idiv (pc' := 53) X9.here hx (hb hby own_d1_52) (by decide) rfl ?_
  refine s_putI (pc' := 54) X9 hx hZ e9 V10 ⟨by decide, by decide⟩ 3 (by decide) (by simp only [List.length_set, dl]; decide) (hb hby own_d1_53) rfl fun T13 hp13 X13 e13 W13 Vw13 => ?_
  have V14 : Arv Z hp13 d kd .int (20 : Int32) ((((ds.set 0 (.int (((x &&& (255 : Int32)) % (15 : Int32)) % (5 : Int32)))).set 1 (.int (((x &&& (255 : Int32)) % (15 : Int32)) / (5 : Int32)))).set 2 (.int (((((x.toUInt32 >>> ((8 : Int32) &&& 31).toUInt32).toInt32) &&& (255 : Int32)) % (15 : Int32)) % (5 : Int32)))).set 3 (.int (((((x.toUInt32 >>> ((8 : Int32) &&& 31).toUInt32).toInt32) &&& (255 : Int32)) % (15 : Int32)) / (5 : Int32)))) (.int (0 : Int32)) := Vw13
  have N13 := Fr.snoc X13 N9 g_d
  have Z15 : n0 ≤ hp13.size := Nat.le_trans Z11 (Keep.of_wr W13).1
  have K16 : Keep h0 hp13 [d] := K12.wr W13 (Or.inl (List.mem_of_getElem? (i := 0) rfl))
  obtain ⟨fs, hr, hrun, hended, hW, hsame⟩ := X13.leave (v := none) (fun _ => rfl)
  refine ⟨_, _, X13.returnOut hx Bd.returns (hb hby own_d1_54) hr, hrun, hended, _, _, rfl, ?_, ⟨_, rfl⟩, hW, hsame.mono (by decide) (by decide)⟩
  show own_fill0_Q Z d x kd ds h0 n0 _ T13.heap _
  rw [e13]
  exact ⟨rfl, N13, K16, V14⟩
theorem own_fill4_ef (m : MethodId) (d : Addr) (x : Int32) (kd : ClassId) (ds : List Value) : entryFrame m #[(.ref d), (.int (4 : Int32)), (.int x)] 5 = mkF m 0 #[.val (.ref d), .val (.int (4 : Int32)), .val (.int x), .unset, .unset] [] := by first | (simp [entryFrame, mkF, argsToLocals, Value.category]; done) | rfl
def own_fill4_Q (Z : State) (d : Addr) (x : Int32) (kd : ClassId) (ds : List Value) (h0 : Heap) (n0 : Nat) (v : Option Value) (h : Heap) (L : List Loc) : Prop := v = none ∧ Fr n0 L ∧ Keep h0 h [d] ∧ Arv Z h d kd .int (20 : Int32) ((((ds.set 4 (.int (((x &&& (255 : Int32)) % (15 : Int32)) % (5 : Int32)))).set 5 (.int (((x &&& (255 : Int32)) % (15 : Int32)) / (5 : Int32)))).set 6 (.int (((((x.toUInt32 >>> ((8 : Int32) &&& 31).toUInt32).toInt32) &&& (255 : Int32)) % (15 : Int32)) % (5 : Int32)))).set 7 (.int (((((x.toUInt32 >>> ((8 : Int32) &&& 31).toUInt32).toInt32) &&& (255 : Int32)) % (15 : Int32)) / (5 : Int32)))) (.int (0 : Int32))
set_option maxRecDepth 65536 in
set_option maxHeartbeats 40000000 in
theorem own_fill4 (l : Launch) (Z : State) (a0 : Array Value) (hw : ∀ d ∈ tables_1, d.before a0 Z = true) (ws : List Jvm.Cond) (d : Addr) (x : Int32) (kd : ClassId) (ds : List Value) (h0 : Heap) (n0 : Nat) (Z0 : n0 ≤ h0.size) (V_d : Arv Z h0 d kd .int (20 : Int32) ds (.int (0 : Int32))) (g_d : n0 ≤ d) (dl : ds.length = 20) :
    MetFree l (⟨"com/example/vestbook/vestbook/FirstCopiesNumberOfPinLaw", "fill", "([III)V"⟩ : MethodName) (head1 (Jvm.Cond.code (⟨"com/example/vestbook/vestbook/FirstCopiesNumberOfPinLaw", "fill", "([III)V"⟩ : MethodName) method_3_code 5 none :: ws) ({ frames := 0, cells := 0, slots := 0, locals := 0 } : Room)) (fun as_ U => as_ = #[(.ref d), (.int (4 : Int32)), (.int x)] ∧ Z.Warmed39 U.vm ∧ U.heap = h0) (fun _ _ _ _ _ => True) (fun _ U_ o_ V_ => ∃ v_ L_, o_ = .returned v_ ∧ own_fill4_Q Z d x kd ds h0 n0 v_ V_.heap L_ ∧ FrameEnd U_ o_ V_ L_ ({ frames := 0, cells := 0, slots := 0, locals := 0 } : Room).cells ({ frames := 0, cells := 0, slots := 0, locals := 0 } : Room).slots) := by
  refine MetFree.of_bodySF (plainFor_of_name own_pn0) hisR ?_
  intro p e s m args below meth c s₁ Bd hml0 hP hK
  obtain ⟨rfl, hZ, hh⟩ := hP
  have hx := Bd.exec
  have hby := Bd.bytes
  have hml : c.maxLocals = 5 := hml0
  have hown : s.vm.findClass "com/example/vestbook/vestbook/FirstCopiesNumberOfPinLaw" = some m.cls := findClass_of_methodNamed Bd.named
  have hnm := (name_of_methodNamed Bd.named Bd.method).1
  have X0 : Stand p l e ({ frames := 0, cells := 0, slots := 0, locals := 0 } : Room) s m #[(.ref d), (.int (4 : Int32)), (.int x)] below meth c s₁ [] 0 0 := Stand.of_body Bd
  have e0 : s₁.heap = h0 := by rw [← hh, Bd.state]; rfl
  have N0 := Fr.nil n0
  refine own_begin (own_fill4_ef m d x kd ds) ?_
  show Ends p.tables e below (s₁.setTop (mkF m 0 #[.val (.ref d), .val (.int (4 : Int32)), .val (.int x), .unset, .unset] [])) _
  have Kr0 : Keep h0 h0 [d] := Keep.refl h0 _
  refine s_iloadN (pc' := 1) X0.here hx (hb hby own_d1_0) rfl rfl ?_
  refine s_sipush (pc' := 4) X0.here hx (v := (255 : Int32)) (hb hby own_d1_1) rfl rfl ?_
  refine s_iand (pc' := 5) X0.here hx (hb hby own_d1_4) rfl ?_
  refine s_bipush (pc' := 7) X0.here hx (v := (15 : Int32)) (hb hby own_d1_5) rfl rfl ?_
  refine s_irem (pc' := 8) X0 hx (hb hby own_d1_7) (by decide) rfl ?_
  refine s_istoreN (pc' := 9) X0.here hx (l' := #[.val (.ref d), .val (.int (4 : Int32)), .val (.int x), .val (.int ((x &&& (255 : Int32)) % (15 : Int32))), .unset]) (hb hby own_d1_8) rfl rfl ?_
  refine s_iloadN (pc' := 10) X0.here hx (hb hby own_d1_9) rfl rfl ?_
  refine s_bipush (pc' := 12) X0.here hx (v := (8 : Int32)) (hb hby own_d1_10) rfl rfl ?_
  refine s_iushr (pc' := 13) X0.here hx (hb hby own_d1_12) rfl ?_
  refine s_sipush (pc' := 16) X0.here hx (v := (255 : Int32)) (hb hby own_d1_13) rfl rfl ?_
  refine s_iand (pc' := 17) X0.here hx (hb hby own_d1_16) rfl ?_
  refine s_bipush (pc' := 19) X0.here hx (v := (15 : Int32)) (hb hby own_d1_17) rfl rfl ?_
  refine s_irem (pc' := 20) X0 hx (hb hby own_d1_19) (by decide) rfl ?_
  refine s_istore (pc' := 22) X0.here hx (l' := #[.val (.ref d), .val (.int (4 : Int32)), .val (.int x), .val (.int ((x &&& (255 : Int32)) % (15 : Int32))), .val (.int ((((x.toUInt32 >>> ((8 : Int32) &&& 31).toUInt32).toInt32) &&& (255 : Int32)) % (15 : Int32)))]) (hb hby own_d1_20) rfl rfl ?_
  refine s_aloadN (pc' := 23) X0.here hx (hb hby own_d1_22) rfl rfl rfl ?_
  refine s_iloadN (pc' := 24) X0.here hx (hb hby own_d1_23) rfl rfl ?_
  refine s_iloadN (pc' := 25) X0.here hx (hb hby own_d1_24) rfl rfl ?_
  refine s_iconst (pc' := 26) X0.here hx (v := (5 : Int32)) (hb hby own_d1_25) rfl rfl ?_
  refine s_irem (pc' := 27) X0 hx (hb hby own_d1_26) (by decide) rfl ?_
  refine s_putI (pc' := 28) X0 hx hZ e0 V_d ⟨by decide, by decide⟩ 4 rfl (by simp only [List.length_set, dl]; decide) (hb hby own_d1_27) rfl fun T1 hp1 X1 e1 W1 Vw1 => ?_
  have V2 : Arv Z hp1 d kd .int (20 : Int32) (ds.set 4 (.int (((x &&& (255 : Int32)) % (15 : Int32)) % (5 : Int32)))) (.int (0 : Int32)) := Vw1
  have N1 := Fr.snoc X1 N0 g_d
  have Z3 : n0 ≤ hp1.size := Nat.le_trans Z0 (Keep.of_wr W1).1
  have K4 : Keep h0 hp1 [d] := Kr0.wr W1 (Or.inl (List.mem_of_getElem? (i := 0) rfl))
  refine s_aloadN (pc' := 29) X1.here hx (hb hby own_d1_28) rfl rfl rfl ?_
  refine s_iloadN (pc' := 30) X1.here hx (hb hby own_d1_29) rfl rfl ?_
  refine s_iconst (pc' := 31) X1.here hx (v := (1 : Int32)) (hb hby own_d1_30) rfl rfl ?_
  refine s_iadd (pc' := 32) X1.here hx (hb hby own_d1_31) rfl ?_
  refine s_iloadN (pc' := 33) X1.here hx (hb hby own_d1_32) rfl rfl ?_
  refine s_iconst (pc' := 34) X1.here hx (v := (5 : Int32)) (hb hby own_d1_33) rfl rfl ?_
  refine s_idiv (pc' := 35) X1.here hx (hb hby own_d1_34) (by decide) rfl ?_
  refine s_putI (pc' := 36) X1 hx hZ e1 V2 ⟨by decide, by decide⟩ 5 (by decide) (by simp only [List.length_set, dl]; decide) (hb hby own_d1_35) rfl fun T5 hp5 X5 e5 W5 Vw5 => ?_
  have V6 : Arv Z hp5 d kd .int (20 : Int32) ((ds.set 4 (.int (((x &&& (255 : Int32)) % (15 : Int32)) % (5 : Int32)))).set 5 (.int (((x &&& (255 : Int32)) % (15 : Int32)) / (5 : Int32)))) (.int (0 : Int32)) := Vw5
  have N5 := Fr.snoc X5 N1 g_d
  have Z7 : n0 ≤ hp5.size := Nat.le_trans Z3 (Keep.of_wr W5).1
  have K8 : Keep h0 hp5 [d] := K4.wr W5 (Or.inl (List.mem_of_getElem? (i := 0) rfl))
  refine s_aloadN (pc' := 37) X5.here hx (hb hby own_d1_36) rfl rfl rfl ?_
  refine s_iloadN (pc' := 38) X5.here hx (hb hby own_d1_37) rfl rfl ?_
  refine s_iconst (pc' := 39) X5.here hx (v := (2 : Int32)) (hb hby own_d1_38) rfl rfl ?_
  refine s_iadd (pc' := 40) X5.here hx (hb hby own_d1_39) rfl ?_
  refine s_iload (pc' := 42) X5.here hx (hb hby own_d1_40) rfl rfl ?_
  refine s_iconst (pc' := 43) X5.here hx (v := (5 : Int32)) (hb hby own_d1_42) rfl rfl ?_
  refine s_irem (pc' := 44) X5 hx (hb hby own_d1_43) (by decide) rfl ?_
  refine s_putI (pc' := 45) X5 hx hZ e5 V6 ⟨by decide, by decide⟩ 6 (by decide) (by simp only [List.length_set, dl]; decide) (hb hby own_d1_44) rfl fun T9 hp9 X9 e9 W9 Vw9 => ?_
  have V10 : Arv Z hp9 d kd .int (20 : Int32) (((ds.set 4 (.int (((x &&& (255 : Int32)) % (15 : Int32)) % (5 : Int32)))).set 5 (.int (((x &&& (255 : Int32)) % (15 : Int32)) / (5 : Int32)))).set 6 (.int (((((x.toUInt32 >>> ((8 : Int32) &&& 31).toUInt32).toInt32) &&& (255 : Int32)) % (15 : Int32)) % (5 : Int32)))) (.int (0 : Int32)) := Vw9
  have N9 := Fr.snoc X9 N5 g_d
  have Z11 : n0 ≤ hp9.size := Nat.le_trans Z7 (Keep.of_wr W9).1
  have K12 : Keep h0 hp9 [d] := K8.wr W9 (Or.inl (List.mem_of_getElem? (i := 0) rfl))
  refine s_aloadN (pc' := 46) X9.here hx (hb hby own_d1_45) rfl rfl rfl ?_
  refine s_iloadN (pc' := 47) X9.here hx (hb hby own_d1_46) rfl rfl ?_
  refine s_iconst (pc' := 48) X9.here hx (v := (3 : Int32)) (hb hby own_d1_47) rfl rfl ?_
  refine s_iadd (pc' := 49) X9.here hx (hb hby own_d1_48) rfl ?_
  refine s_iload (pc' := 51) X9.here hx (hb hby own_d1_49) rfl rfl ?_
  refine s_iconst (pc' := 52) X9.here hx (v := (5 : Int32)) (hb hby own_d1_51) rfl rfl ?_
  refine s_idiv (pc' := 53) X9.here hx (hb hby own_d1_52) (by decide) rfl ?_
  refine s_putI (pc' := 54) X9 hx hZ e9 V10 ⟨by decide, by decide⟩ 7 (by decide) (by simp only [List.length_set, dl]; decide) (hb hby own_d1_53) rfl fun T13 hp13 X13 e13 W13 Vw13 => ?_
  have V14 : Arv Z hp13 d kd .int (20 : Int32) ((((ds.set 4 (.int (((x &&& (255 : Int32)) % (15 : Int32)) % (5 : Int32)))).set 5 (.int (((x &&& (255 : Int32)) % (15 : Int32)) / (5 : Int32)))).set 6 (.int (((((x.toUInt32 >>> ((8 : Int32) &&& 31).toUInt32).toInt32) &&& (255 : Int32)) % (15 : Int32)) % (5 : Int32)))).set 7 (.int (((((x.toUInt32 >>> ((8 : Int32) &&& 31).toUInt32).toInt32) &&& (255 : Int32)) % (15 : Int32)) / (5 : Int32)))) (.int (0 : Int32)) := Vw13
  have N13 := Fr.snoc X13 N9 g_d
  have Z15 : n0 ≤ hp13.size := Nat.le_trans Z11 (Keep.of_wr W13).1
  have K16 : Keep h0 hp13 [d] := K12.wr W13 (Or.inl (List.mem_of_getElem? (i := 0) rfl))
  obtain ⟨fs, hr, hrun, hended, hW, hsame⟩ := X13.leave (v := none) (fun _ => rfl)
  refine ⟨_, _, X13.returnOut hx Bd.returns (hb hby own_d1_54) hr, hrun, hended, _, _, rfl, ?_, ⟨_, rfl⟩, hW, hsame.mono (by decide) (by decide)⟩
  show own_fill4_Q Z d x kd ds h0 n0 _ T13.heap _
  rw [e13]
  exact ⟨rfl, N13, K16, V14⟩
theorem own_fill8_ef (m : MethodId) (d : Addr) (x : Int32) (kd : ClassId) (ds : List Value) : entryFrame m #[(.ref d), (.int (8 : Int32)), (.int x)] 5 = mkF m 0 #[.val (.ref d), .val (.int (8 : Int32)), .val (.int x), .unset, .unset] [] := by first | (simp [entryFrame, mkF, argsToLocals, Value.category]; done) | rfl
def own_fill8_Q (Z : State) (d : Addr) (x : Int32) (kd : ClassId) (ds : List Value) (h0 : Heap) (n0 : Nat) (v : Option Value) (h : Heap) (L : List Loc) : Prop := v = none ∧ Fr n0 L ∧ Keep h0 h [d] ∧ Arv Z h d kd .int (20 : Int32) ((((ds.set 8 (.int (((x &&& (255 : Int32)) % (15 : Int32)) % (5 : Int32)))).set 9 (.int (((x &&& (255 : Int32)) % (15 : Int32)) / (5 : Int32)))).set 10 (.int (((((x.toUInt32 >>> ((8 : Int32) &&& 31).toUInt32).toInt32) &&& (255 : Int32)) % (15 : Int32)) % (5 : Int32)))).set 11 (.int (((((x.toUInt32 >>> ((8 : Int32) &&& 31).toUInt32).toInt32) &&& (255 : Int32)) % (15 : Int32)) / (5 : Int32)))) (.int (0 : Int32))
set_option maxRecDepth 65536 in
set_option maxHeartbeats 40000000 in
theorem own_fill8 (l : Launch) (Z : State) (a0 : Array Value) (hw : ∀ d ∈ tables_1, d.before a0 Z = true) (ws : List Jvm.Cond) (d : Addr) (x : Int32) (kd : ClassId) (ds : List Value) (h0 : Heap) (n0 : Nat) (Z0 : n0 ≤ h0.size) (V_d : Arv Z h0 d kd .int (20 : Int32) ds (.int (0 : Int32))) (g_d : n0 ≤ d) (dl : ds.length = 20) :
    MetFree l (⟨"com/example/vestbook/vestbook/FirstCopiesNumberOfPinLaw", "fill", "([III)V"⟩ : MethodName) (head1 (Jvm.Cond.code (⟨"com/example/vestbook/vestbook/FirstCopiesNumberOfPinLaw", "fill", "([III)V"⟩ : MethodName) method_3_code 5 none :: ws) ({ frames := 0, cells := 0, slots := 0, locals := 0 } : Room)) (fun as_ U => as_ = #[(.ref d), (.int (8 : Int32)), (.int x)] ∧ Z.Warmed39 U.vm ∧ U.heap = h0) (fun _ _ _ _ _ => True) (fun _ U_ o_ V_ => ∃ v_ L_, o_ = .returned v_ ∧ own_fill8_Q Z d x kd ds h0 n0 v_ V_.heap L_ ∧ FrameEnd U_ o_ V_ L_ ({ frames := 0, cells := 0, slots := 0, locals := 0 } : Room).cells ({ frames := 0, cells := 0, slots := 0, locals := 0 } : Room).slots) := by
  refine MetFree.of_bodySF (plainFor_of_name own_pn0) hisR ?_
  intro p e s m args below meth c s₁ Bd hml0 hP hK
  obtain ⟨rfl, hZ, hh⟩ := hP
  have hx := Bd.exec
  have hby := Bd.bytes
  have hml : c.maxLocals = 5 := hml0
  have hown : s.vm.findClass "com/example/vestbook/vestbook/FirstCopiesNumberOfPinLaw" = some m.cls := findClass_of_methodNamed Bd.named
  have hnm := (name_of_methodNamed Bd.named Bd.method).1
  have X0 : Stand p l e ({ frames := 0, cells := 0, slots := 0, locals := 0 } : Room) s m #[(.ref d), (.int (8 : Int32)), (.int x)] below meth c s₁ [] 0 0 := Stand.of_body Bd
  have e0 : s₁.heap = h0 := by rw [← hh, Bd.state]; rfl
  have N0 := Fr.nil n0
  refine own_begin (own_fill8_ef m d x kd ds) ?_
  show Ends p.tables e below (s₁.setTop (mkF m 0 #[.val (.ref d), .val (.int (8 : Int32)), .val (.int x), .unset, .unset] [])) _
  have Kr0 : Keep h0 h0 [d] := Keep.refl h0 _
  refine s_iloadN (pc' := 1) X0.here hx (hb hby own_d1_0) rfl rfl ?_
  refine s_sipush (pc' := 4) X0.here hx (v := (255 : Int32)) (hb hby own_d1_1) rfl rfl ?_
  refine s_iand (pc' := 5) X0.here hx (hb hby own_d1_4) rfl ?_
  refine s_bipush (pc' := 7) X0.here hx (v := (15 : Int32)) (hb hby own_d1_5) rfl rfl ?_
  refine s_irem (pc' := 8) X0 hx (hb hby own_d1_7) (by decide) rfl ?_
  refine s_istoreN (pc' := 9) X0.here hx (l' := #[.val (.ref d), .val (.int (8 : Int32)), .val (.int x), .val (.int ((x &&& (255 : Int32)) % (15 : Int32))), .unset]) (hb hby own_d1_8) rfl rfl ?_
  refine s_iloadN (pc' := 10) X0.here hx (hb hby own_d1_9) rfl rfl ?_
  refine s_bipush (pc' := 12) X0.here hx (v := (8 : Int32)) (hb hby own_d1_10) rfl rfl ?_
  refine s_iushr (pc' := 13) X0.here hx (hb hby own_d1_12) rfl ?_
  refine s_sipush (pc' := 16) X0.here hx (v := (255 : Int32)) (hb hby own_d1_13) rfl rfl ?_
  refine s_iand (pc' := 17) X0.here hx (hb hby own_d1_16) rfl ?_
  refine s_bipush (pc' := 19) X0.here hx (v := (15 : Int32)) (hb hby own_d1_17) rfl rfl ?_
  refine s_irem (pc' := 20) X0 hx (hb hby own_d1_19) (by decide) rfl ?_
  refine s_istore (pc' := 22) X0.here hx (l' := #[.val (.ref d), .val (.int (8 : Int32)), .val (.int x), .val (.int ((x &&& (255 : Int32)) % (15 : Int32))), .val (.int ((((x.toUInt32 >>> ((8 : Int32) &&& 31).toUInt32).toInt32) &&& (255 : Int32)) % (15 : Int32)))]) (hb hby own_d1_20) rfl rfl ?_
  refine s_aloadN (pc' := 23) X0.here hx (hb hby own_d1_22) rfl rfl rfl ?_
  refine s_iloadN (pc' := 24) X0.here hx (hb hby own_d1_23) rfl rfl ?_
  refine s_iloadN (pc' := 25) X0.here hx (hb hby own_d1_24) rfl rfl ?_
  refine s_iconst (pc' := 26) X0.here hx (v := (5 : Int32)) (hb hby own_d1_25) rfl rfl ?_
  refine s_irem (pc' := 27) X0 hx (hb hby own_d1_26) (by decide) rfl ?_
  refine s_putI (pc' := 28) X0 hx hZ e0 V_d ⟨by decide, by decide⟩ 8 rfl (by simp only [List.length_set, dl]; decide) (hb hby own_d1_27) rfl fun T1 hp1 X1 e1 W1 Vw1 => ?_
  have V2 : Arv Z hp1 d kd .int (20 : Int32) (ds.set 8 (.int (((x &&& (255 : Int32)) % (15 : Int32)) % (5 : Int32)))) (.int (0 : Int32)) := Vw1
  have N1 := Fr.snoc X1 N0 g_d
  have Z3 : n0 ≤ hp1.size := Nat.le_trans Z0 (Keep.of_wr W1).1
  have K4 : Keep h0 hp1 [d] := Kr0.wr W1 (Or.inl (List.mem_of_getElem? (i := 0) rfl))
  refine s_aloadN (pc' := 29) X1.here hx (hb hby own_d1_28) rfl rfl rfl ?_
  refine s_iloadN (pc' := 30) X1.here hx (hb hby own_d1_29) rfl rfl ?_
  refine s_iconst (pc' := 31) X1.here hx (v := (1 : Int32)) (hb hby own_d1_30) rfl rfl ?_
  refine s_iadd (pc' := 32) X1.here hx (hb hby own_d1_31) rfl ?_
  refine s_iloadN (pc' := 33) X1.here hx (hb hby own_d1_32) rfl rfl ?_
  refine s_iconst (pc' := 34) X1.here hx (v := (5 : Int32)) (hb hby own_d1_33) rfl rfl ?_
  refine s_idiv (pc' := 35) X1.here hx (hb hby own_d1_34) (by decide) rfl ?_
  refine s_putI (pc' := 36) X1 hx hZ e1 V2 ⟨by decide, by decide⟩ 9 (by decide) (by simp only [List.length_set, dl]; decide) (hb hby own_d1_35) rfl fun T5 hp5 X5 e5 W5 Vw5 => ?_
  have V6 : Arv Z hp5 d kd .int (20 : Int32) ((ds.set 8 (.int (((x &&& (255 : Int32)) % (15 : Int32)) % (5 : Int32)))).set 9 (.int (((x &&& (255 : Int32)) % (15 : Int32)) / (5 : Int32)))) (.int (0 : Int32)) := Vw5
  have N5 := Fr.snoc X5 N1 g_d
  have Z7 : n0 ≤ hp5.size := Nat.le_trans Z3 (Keep.of_wr W5).1
  have K8 : Keep h0 hp5 [d] := K4.wr W5 (Or.inl (List.mem_of_getElem? (i := 0) rfl))
  refine s_aloadN (pc' := 37) X5.here hx (hb hby own_d1_36) rfl rfl rfl ?_
  refine s_iloadN (pc' := 38) X5.here hx (hb hby own_d1_37) rfl rfl ?_
  refine s_iconst (pc' := 39) X5.here hx (v := (2 : Int32)) (hb hby own_d1_38) rfl rfl ?_
  refine s_iadd (pc' := 40) X5.here hx (hb hby own_d1_39) rfl ?_
  refine s_iload (pc' := 42) X5.here hx (hb hby own_d1_40) rfl rfl ?_
  refine s_iconst (pc' := 43) X5.here hx (v := (5 : Int32)) (hb hby own_d1_42) rfl rfl ?_
  refine s_irem (pc' := 44) X5 hx (hb hby own_d1_43) (by decide) rfl ?_
  refine s_putI (pc' := 45) X5 hx hZ e5 V6 ⟨by decide, by decide⟩ 10 (by decide) (by simp only [List.length_set, dl]; decide) (hb hby own_d1_44) rfl fun T9 hp9 X9 e9 W9 Vw9 => ?_
  have V10 : Arv Z hp9 d kd .int (20 : Int32) (((ds.set 8 (.int (((x &&& (255 : Int32)) % (15 : Int32)) % (5 : Int32)))).set 9 (.int (((x &&& (255 : Int32)) % (15 : Int32)) / (5 : Int32)))).set 10 (.int (((((x.toUInt32 >>> ((8 : Int32) &&& 31).toUInt32).toInt32) &&& (255 : Int32)) % (15 : Int32)) % (5 : Int32)))) (.int (0 : Int32)) := Vw9
  have N9 := Fr.snoc X9 N5 g_d
  have Z11 : n0 ≤ hp9.size := Nat.le_trans Z7 (Keep.of_wr W9).1
  have K12 : Keep h0 hp9 [d] := K8.wr W9 (Or.inl (List.mem_of_getElem? (i := 0) rfl))
  refine s_aloadN (pc' := 46) X9.here hx (hb hby own_d1_45) rfl rfl rfl ?_
  refine s_iloadN (pc' := 47) X9.here hx (hb hby own_d1_46) rfl rfl ?_
  refine s_iconst (pc' := 48) X9.here hx (v := (3 : Int32)) (hb hby own_d1_47) rfl rfl ?_
  refine s_iadd (pc' := 49) X9.here hx (hb hby own_d1_48) rfl ?_
  refine s_iload (pc' := 51) X9.here hx (hb hby own_d1_49) rfl rfl ?_
  refine s_iconst (pc' := 52) X9.here hx (v := (5 : Int32)) (hb hby own_d1_51) rfl rfl ?_
  refine s_idiv (pc' := 53) X9.here hx (hb hby own_d1_52) (by decide) rfl ?_
  refine s_putI (pc' := 54) X9 hx hZ e9 V10 ⟨by decide, by decide⟩ 11 (by decide) (by simp only [List.length_set, dl]; decide) (hb hby own_d1_53) rfl fun T13 hp13 X13 e13 W13 Vw13 => ?_
  have V14 : Arv Z hp13 d kd .int (20 : Int32) ((((ds.set 8 (.int (((x &&& (255 : Int32)) % (15 : Int32)) % (5 : Int32)))).set 9 (.int (((x &&& (255 : Int32)) % (15 : Int32)) / (5 : Int32)))).set 10 (.int (((((x.toUInt32 >>> ((8 : Int32) &&& 31).toUInt32).toInt32) &&& (255 : Int32)) % (15 : Int32)) % (5 : Int32)))).set 11 (.int (((((x.toUInt32 >>> ((8 : Int32) &&& 31).toUInt32).toInt32) &&& (255 : Int32)) % (15 : Int32)) / (5 : Int32)))) (.int (0 : Int32)) := Vw13
  have N13 := Fr.snoc X13 N9 g_d
  have Z15 : n0 ≤ hp13.size := Nat.le_trans Z11 (Keep.of_wr W13).1
  have K16 : Keep h0 hp13 [d] := K12.wr W13 (Or.inl (List.mem_of_getElem? (i := 0) rfl))
  obtain ⟨fs, hr, hrun, hended, hW, hsame⟩ := X13.leave (v := none) (fun _ => rfl)
  refine ⟨_, _, X13.returnOut hx Bd.returns (hb hby own_d1_54) hr, hrun, hended, _, _, rfl, ?_, ⟨_, rfl⟩, hW, hsame.mono (by decide) (by decide)⟩
  show own_fill8_Q Z d x kd ds h0 n0 _ T13.heap _
  rw [e13]
  exact ⟨rfl, N13, K16, V14⟩
theorem own_fill12_ef (m : MethodId) (d : Addr) (x : Int32) (kd : ClassId) (ds : List Value) : entryFrame m #[(.ref d), (.int (12 : Int32)), (.int x)] 5 = mkF m 0 #[.val (.ref d), .val (.int (12 : Int32)), .val (.int x), .unset, .unset] [] := by first | (simp [entryFrame, mkF, argsToLocals, Value.category]; done) | rfl
def own_fill12_Q (Z : State) (d : Addr) (x : Int32) (kd : ClassId) (ds : List Value) (h0 : Heap) (n0 : Nat) (v : Option Value) (h : Heap) (L : List Loc) : Prop := v = none ∧ Fr n0 L ∧ Keep h0 h [d] ∧ Arv Z h d kd .int (20 : Int32) ((((ds.set 12 (.int (((x &&& (255 : Int32)) % (15 : Int32)) % (5 : Int32)))).set 13 (.int (((x &&& (255 : Int32)) % (15 : Int32)) / (5 : Int32)))).set 14 (.int (((((x.toUInt32 >>> ((8 : Int32) &&& 31).toUInt32).toInt32) &&& (255 : Int32)) % (15 : Int32)) % (5 : Int32)))).set 15 (.int (((((x.toUInt32 >>> ((8 : Int32) &&& 31).toUInt32).toInt32) &&& (255 : Int32)) % (15 : Int32)) / (5 : Int32)))) (.int (0 : Int32))
set_option maxRecDepth 65536 in
set_option maxHeartbeats 40000000 in
theorem own_fill12 (l : Launch) (Z : State) (a0 : Array Value) (hw : ∀ d ∈ tables_1, d.before a0 Z = true) (ws : List Jvm.Cond) (d : Addr) (x : Int32) (kd : ClassId) (ds : List Value) (h0 : Heap) (n0 : Nat) (Z0 : n0 ≤ h0.size) (V_d : Arv Z h0 d kd .int (20 : Int32) ds (.int (0 : Int32))) (g_d : n0 ≤ d) (dl : ds.length = 20) :
    MetFree l (⟨"com/example/vestbook/vestbook/FirstCopiesNumberOfPinLaw", "fill", "([III)V"⟩ : MethodName) (head1 (Jvm.Cond.code (⟨"com/example/vestbook/vestbook/FirstCopiesNumberOfPinLaw", "fill", "([III)V"⟩ : MethodName) method_3_code 5 none :: ws) ({ frames := 0, cells := 0, slots := 0, locals := 0 } : Room)) (fun as_ U => as_ = #[(.ref d), (.int (12 : Int32)), (.int x)] ∧ Z.Warmed39 U.vm ∧ U.heap = h0) (fun _ _ _ _ _ => True) (fun _ U_ o_ V_ => ∃ v_ L_, o_ = .returned v_ ∧ own_fill12_Q Z d x kd ds h0 n0 v_ V_.heap L_ ∧ FrameEnd U_ o_ V_ L_ ({ frames := 0, cells := 0, slots := 0, locals := 0 } : Room).cells ({ frames := 0, cells := 0, slots := 0, locals := 0 } : Room).slots) := by
  refine MetFree.of_bodySF (plainFor_of_name own_pn0) hisR ?_
  intro p e s m args below meth c s₁ Bd hml0 hP hK
  obtain ⟨rfl, hZ, hh⟩ := hP
  have hx := Bd.exec
  have hby := Bd.bytes
  have hml : c.maxLocals = 5 := hml0
  have hown : s.vm.findClass "com/example/vestbook/vestbook/FirstCopiesNumberOfPinLaw" = some m.cls := findClass_of_methodNamed Bd.named
  have hnm := (name_of_methodNamed Bd.named Bd.method).1
  have X0 : Stand p l e ({ frames := 0, cells := 0, slots := 0, locals := 0 } : Room) s m #[(.ref d), (.int (12 : Int32)), (.int x)] below meth c s₁ [] 0 0 := Stand.of_body Bd
  have e0 : s₁.heap = h0 := by rw [← hh, Bd.state]; rfl
  have N0 := Fr.nil n0
  refine own_begin (own_fill12_ef m d x kd ds) ?_
  show Ends p.tables e below (s₁.setTop (mkF m 0 #[.val (.ref d), .val (.int (12 : Int32)), .val (.int x), .unset, .unset] [])) _
  have Kr0 : Keep h0 h0 [d] := Keep.refl h0 _
  refine s_iloadN (pc' := 1) X0.here hx (hb hby own_d1_0) rfl rfl ?_
  refine s_sipush (pc' := 4) X0.here hx (v := (255 : Int32)) (hb hby own_d1_1) rfl rfl ?_
  refine s_iand (pc' := 5) X0.here hx (hb hby own_d1_4) rfl ?_
  refine s_bipush (pc' := 7) X0.here hx (v := (15 : Int32)) (hb hby own_d1_5) rfl rfl ?_
  refine s_irem (pc' := 8) X0 hx (hb hby own_d1_7) (by decide) rfl ?_
  refine s_istoreN (pc' := 9) X0.here hx (l' := #[.val (.ref d), .val (.int (12 : Int32)), .val (.int x), .val (.int ((x &&& (255 : Int32)) % (15 : Int32))), .unset]) (hb hby own_d1_8) rfl rfl ?_
  refine s_iloadN (pc' := 10) X0.here hx (hb hby own_d1_9) rfl rfl ?_
  refine s_bipush (pc' := 12) X0.here hx (v := (8 : Int32)) (hb hby own_d1_10) rfl rfl ?_
  refine s_iushr (pc' := 13) X0.here hx (hb hby own_d1_12) rfl ?_
  refine s_sipush (pc' := 16) X0.here hx (v := (255 : Int32)) (hb hby own_d1_13) rfl rfl ?_
  refine s_iand (pc' := 17) X0.here hx (hb hby own_d1_16) rfl ?_
  refine s_bipush (pc' := 19) X0.here hx (v := (15 : Int32)) (hb hby own_d1_17) rfl rfl ?_
  refine s_irem (pc' := 20) X0 hx (hb hby own_d1_19) (by decide) rfl ?_
  refine s_istore (pc' := 22) X0.here hx (l' := #[.val (.ref d), .val (.int (12 : Int32)), .val (.int x), .val (.int ((x &&& (255 : Int32)) % (15 : Int32))), .val (.int ((((x.toUInt32 >>> ((8 : Int32) &&& 31).toUInt32).toInt32) &&& (255 : Int32)) % (15 : Int32)))]) (hb hby own_d1_20) rfl rfl ?_
  refine s_aloadN (pc' := 23) X0.here hx (hb hby own_d1_22) rfl rfl rfl ?_
  refine s_iloadN (pc' := 24) X0.here hx (hb hby own_d1_23) rfl rfl ?_
  refine s_iloadN (pc' := 25) X0.here hx (hb hby own_d1_24) rfl rfl ?_
  refine s_iconst (pc' := 26) X0.here hx (v := (5 : Int32)) (hb hby own_d1_25) rfl rfl ?_
  refine s_irem (pc' := 27) X0 hx (hb hby own_d1_26) (by decide) rfl ?_
  refine s_putI (pc' := 28) X0 hx hZ e0 V_d ⟨by decide, by decide⟩ 12 rfl (by simp only [List.length_set, dl]; decide) (hb hby own_d1_27) rfl fun T1 hp1 X1 e1 W1 Vw1 => ?_
  have V2 : Arv Z hp1 d kd .int (20 : Int32) (ds.set 12 (.int (((x &&& (255 : Int32)) % (15 : Int32)) % (5 : Int32)))) (.int (0 : Int32)) := Vw1
  have N1 := Fr.snoc X1 N0 g_d
  have Z3 : n0 ≤ hp1.size := Nat.le_trans Z0 (Keep.of_wr W1).1
  have K4 : Keep h0 hp1 [d] := Kr0.wr W1 (Or.inl (List.mem_of_getElem? (i := 0) rfl))
  refine s_aloadN (pc' := 29) X1.here hx (hb hby own_d1_28) rfl rfl rfl ?_
  refine s_iloadN (pc' := 30) X1.here hx (hb hby own_d1_29) rfl rfl ?_
  refine s_iconst (pc' := 31) X1.here hx (v := (1 : Int32)) (hb hby own_d1_30) rfl rfl ?_
  refine s_iadd (pc' := 32) X1.here hx (hb hby own_d1_31) rfl ?_
  refine s_iloadN (pc' := 33) X1.here hx (hb hby own_d1_32) rfl rfl ?_
  refine s_iconst (pc' := 34) X1.here hx (v := (5 : Int32)) (hb hby own_d1_33) rfl rfl ?_
  refine s_idiv (pc' := 35) X1.here hx (hb hby own_d1_34) (by decide) rfl ?_
  refine s_putI (pc' := 36) X1 hx hZ e1 V2 ⟨by decide, by decide⟩ 13 (by decide) (by simp only [List.length_set, dl]; decide) (hb hby own_d1_35) rfl fun T5 hp5 X5 e5 W5 Vw5 => ?_
  have V6 : Arv Z hp5 d kd .int (20 : Int32) ((ds.set 12 (.int (((x &&& (255 : Int32)) % (15 : Int32)) % (5 : Int32)))).set 13 (.int (((x &&& (255 : Int32)) % (15 : Int32)) / (5 : Int32)))) (.int (0 : Int32)) := Vw5
  have N5 := Fr.snoc X5 N1 g_d
  have Z7 : n0 ≤ hp5.size := Nat.le_trans Z3 (Keep.of_wr W5).1
  have K8 : Keep h0 hp5 [d] := K4.wr W5 (Or.inl (List.mem_of_getElem? (i := 0) rfl))
  refine s_aloadN (pc' := 37) X5.here hx (hb hby own_d1_36) rfl rfl rfl ?_
  refine s_iloadN (pc' := 38) X5.here hx (hb hby own_d1_37) rfl rfl ?_
  refine s_iconst (pc' := 39) X5.here hx (v := (2 : Int32)) (hb hby own_d1_38) rfl rfl ?_
  refine s_iadd (pc' := 40) X5.here hx (hb hby own_d1_39) rfl ?_
  refine s_iload (pc' := 42) X5.here hx (hb hby own_d1_40) rfl rfl ?_
  refine s_iconst (pc' := 43) X5.here hx (v := (5 : Int32)) (hb hby own_d1_42) rfl rfl ?_
  refine s_irem (pc' := 44) X5 hx (hb hby own_d1_43) (by decide) rfl ?_
  refine s_putI (pc' := 45) X5 hx hZ e5 V6 ⟨by decide, by decide⟩ 14 (by decide) (by simp only [List.length_set, dl]; decide) (hb hby own_d1_44) rfl fun T9 hp9 X9 e9 W9 Vw9 => ?_
  have V10 : Arv Z hp9 d kd .int (20 : Int32) (((ds.set 12 (.int (((x &&& (255 : Int32)) % (15 : Int32)) % (5 : Int32)))).set 13 (.int (((x &&& (255 : Int32)) % (15 : Int32)) / (5 : Int32)))).set 14 (.int (((((x.toUInt32 >>> ((8 : Int32) &&& 31).toUInt32).toInt32) &&& (255 : Int32)) % (15 : Int32)) % (5 : Int32)))) (.int (0 : Int32)) := Vw9
  have N9 := Fr.snoc X9 N5 g_d
  have Z11 : n0 ≤ hp9.size := Nat.le_trans Z7 (Keep.of_wr W9).1
  have K12 : Keep h0 hp9 [d] := K8.wr W9 (Or.inl (List.mem_of_getElem? (i := 0) rfl))
  refine s_aloadN (pc' := 46) X9.here hx (hb hby own_d1_45) rfl rfl rfl ?_
  refine s_iloadN (pc' := 47) X9.here hx (hb hby own_d1_46) rfl rfl ?_
  refine s_iconst (pc' := 48) X9.here hx (v := (3 : Int32)) (hb hby own_d1_47) rfl rfl ?_
  refine s_iadd (pc' := 49) X9.here hx (hb hby own_d1_48) rfl ?_
  refine s_iload (pc' := 51) X9.here hx (hb hby own_d1_49) rfl rfl ?_
  refine s_iconst (pc' := 52) X9.here hx (v := (5 : Int32)) (hb hby own_d1_51) rfl rfl ?_
  refine s_idiv (pc' := 53) X9.here hx (hb hby own_d1_52) (by decide) rfl ?_
  refine s_putI (pc' := 54) X9 hx hZ e9 V10 ⟨by decide, by decide⟩ 15 (by decide) (by simp only [List.length_set, dl]; decide) (hb hby own_d1_53) rfl fun T13 hp13 X13 e13 W13 Vw13 => ?_
  have V14 : Arv Z hp13 d kd .int (20 : Int32) ((((ds.set 12 (.int (((x &&& (255 : Int32)) % (15 : Int32)) % (5 : Int32)))).set 13 (.int (((x &&& (255 : Int32)) % (15 : Int32)) / (5 : Int32)))).set 14 (.int (((((x.toUInt32 >>> ((8 : Int32) &&& 31).toUInt32).toInt32) &&& (255 : Int32)) % (15 : Int32)) % (5 : Int32)))).set 15 (.int (((((x.toUInt32 >>> ((8 : Int32) &&& 31).toUInt32).toInt32) &&& (255 : Int32)) % (15 : Int32)) / (5 : Int32)))) (.int (0 : Int32)) := Vw13
  have N13 := Fr.snoc X13 N9 g_d
  have Z15 : n0 ≤ hp13.size := Nat.le_trans Z11 (Keep.of_wr W13).1
  have K16 : Keep h0 hp13 [d] := K12.wr W13 (Or.inl (List.mem_of_getElem? (i := 0) rfl))
  obtain ⟨fs, hr, hrun, hended, hW, hsame⟩ := X13.leave (v := none) (fun _ => rfl)
  refine ⟨_, _, X13.returnOut hx Bd.returns (hb hby own_d1_54) hr, hrun, hended, _, _, rfl, ?_, ⟨_, rfl⟩, hW, hsame.mono (by decide) (by decide)⟩
  show own_fill12_Q Z d x kd ds h0 n0 _ T13.heap _
  rw [e13]
  exact ⟨rfl, N13, K16, V14⟩
theorem own_fill16_ef (m : MethodId) (d : Addr) (x : Int32) (kd : ClassId) (ds : List Value) : entryFrame m #[(.ref d), (.int (16 : Int32)), (.int x)] 5 = mkF m 0 #[.val (.ref d), .val (.int (16 : Int32)), .val (.int x), .unset, .unset] [] := by first | (simp [entryFrame, mkF, argsToLocals, Value.category]; done) | rfl
def own_fill16_Q (Z : State) (d : Addr) (x : Int32) (kd : ClassId) (ds : List Value) (h0 : Heap) (n0 : Nat) (v : Option Value) (h : Heap) (L : List Loc) : Prop := v = none ∧ Fr n0 L ∧ Keep h0 h [d] ∧ Arv Z h d kd .int (20 : Int32) ((((ds.set 16 (.int (((x &&& (255 : Int32)) % (15 : Int32)) % (5 : Int32)))).set 17 (.int (((x &&& (255 : Int32)) % (15 : Int32)) / (5 : Int32)))).set 18 (.int (((((x.toUInt32 >>> ((8 : Int32) &&& 31).toUInt32).toInt32) &&& (255 : Int32)) % (15 : Int32)) % (5 : Int32)))).set 19 (.int (((((x.toUInt32 >>> ((8 : Int32) &&& 31).toUInt32).toInt32) &&& (255 : Int32)) % (15 : Int32)) / (5 : Int32)))) (.int (0 : Int32))
set_option maxRecDepth 65536 in
set_option maxHeartbeats 40000000 in
theorem own_fill16 (l : Launch) (Z : State) (a0 : Array Value) (hw : ∀ d ∈ tables_1, d.before a0 Z = true) (ws : List Jvm.Cond) (d : Addr) (x : Int32) (kd : ClassId) (ds : List Value) (h0 : Heap) (n0 : Nat) (Z0 : n0 ≤ h0.size) (V_d : Arv Z h0 d kd .int (20 : Int32) ds (.int (0 : Int32))) (g_d : n0 ≤ d) (dl : ds.length = 20) :
    MetFree l (⟨"com/example/vestbook/vestbook/FirstCopiesNumberOfPinLaw", "fill", "([III)V"⟩ : MethodName) (head1 (Jvm.Cond.code (⟨"com/example/vestbook/vestbook/FirstCopiesNumberOfPinLaw", "fill", "([III)V"⟩ : MethodName) method_3_code 5 none :: ws) ({ frames := 0, cells := 0, slots := 0, locals := 0 } : Room)) (fun as_ U => as_ = #[(.ref d), (.int (16 : Int32)), (.int x)] ∧ Z.Warmed39 U.vm ∧ U.heap = h0) (fun _ _ _ _ _ => True) (fun _ U_ o_ V_ => ∃ v_ L_, o_ = .returned v_ ∧ own_fill16_Q Z d x kd ds h0 n0 v_ V_.heap L_ ∧ FrameEnd U_ o_ V_ L_ ({ frames := 0, cells := 0, slots := 0, locals := 0 } : Room).cells ({ frames := 0, cells := 0, slots := 0, locals := 0 } : Room).slots) := by
  refine MetFree.of_bodySF (plainFor_of_name own_pn0) hisR ?_
  intro p e s m args below meth c s₁ Bd hml0 hP hK
  obtain ⟨rfl, hZ, hh⟩ := hP
  have hx := Bd.exec
  have hby := Bd.bytes
  have hml : c.maxLocals = 5 := hml0
  have hown : s.vm.findClass "com/example/vestbook/vestbook/FirstCopiesNumberOfPinLaw" = some m.cls := findClass_of_methodNamed Bd.named
  have hnm := (name_of_methodNamed Bd.named Bd.method).1
  have X0 : Stand p l e ({ frames := 0, cells := 0, slots := 0, locals := 0 } : Room) s m #[(.ref d), (.int (16 : Int32)), (.int x)] below meth c s₁ [] 0 0 := Stand.of_body Bd
  have e0 : s₁.heap = h0 := by rw [← hh, Bd.state]; rfl
  have N0 := Fr.nil n0
  refine own_begin (own_fill16_ef m d x kd ds) ?_
  show Ends p.tables e below (s₁.setTop (mkF m 0 #[.val (.ref d), .val (.int (16 : Int32)), .val (.int x), .unset, .unset] [])) _
  have Kr0 : Keep h0 h0 [d] := Keep.refl h0 _
  refine s_iloadN (pc' := 1) X0.here hx (hb hby own_d1_0) rfl rfl ?_
  refine s_sipush (pc' := 4) X0.here hx (v := (255 : Int32)) (hb hby own_d1_1) rfl rfl ?_
  refine s_iand (pc' := 5) X0.here hx (hb hby own_d1_4) rfl ?_
  refine s_bipush (pc' := 7) X0.here hx (v := (15 : Int32)) (hb hby own_d1_5) rfl rfl ?_
  refine s_irem (pc' := 8) X0 hx (hb hby own_d1_7) (by decide) rfl ?_
  refine s_istoreN (pc' := 9) X0.here hx (l' := #[.val (.ref d), .val (.int (16 : Int32)), .val (.int x), .val (.int ((x &&& (255 : Int32)) % (15 : Int32))), .unset]) (hb hby own_d1_8) rfl rfl ?_
  refine s_iloadN (pc' := 10) X0.here hx (hb hby own_d1_9) rfl rfl ?_
  refine s_bipush (pc' := 12) X0.here hx (v := (8 : Int32)) (hb hby own_d1_10) rfl rfl ?_
  refine s_iushr (pc' := 13) X0.here hx (hb hby own_d1_12) rfl ?_
  refine s_sipush (pc' := 16) X0.here hx (v := (255 : Int32)) (hb hby own_d1_13) rfl rfl ?_
  refine s_iand (pc' := 17) X0.here hx (hb hby own_d1_16) rfl ?_
  refine s_bipush (pc' := 19) X0.here hx (v := (15 : Int32)) (hb hby own_d1_17) rfl rfl ?_
  refine s_irem (pc' := 20) X0 hx (hb hby own_d1_19) (by decide) rfl ?_
  refine s_istore (pc' := 22) X0.here hx (l' := #[.val (.ref d), .val (.int (16 : Int32)), .val (.int x), .val (.int ((x &&& (255 : Int32)) % (15 : Int32))), .val (.int ((((x.toUInt32 >>> ((8 : Int32) &&& 31).toUInt32).toInt32) &&& (255 : Int32)) % (15 : Int32)))]) (hb hby own_d1_20) rfl rfl ?_
  refine s_aloadN (pc' := 23) X0.here hx (hb hby own_d1_22) rfl rfl rfl ?_
  refine s_iloadN (pc' := 24) X0.here hx (hb hby own_d1_23) rfl rfl ?_
  refine s_iloadN (pc' := 25) X0.here hx (hb hby own_d1_24) rfl rfl ?_
  refine s_iconst (pc' := 26) X0.here hx (v := (5 : Int32)) (hb hby own_d1_25) rfl rfl ?_
  refine s_irem (pc' := 27) X0 hx (hb hby own_d1_26) (by decide) rfl ?_
  refine s_putI (pc' := 28) X0 hx hZ e0 V_d ⟨by decide, by decide⟩ 16 rfl (by simp only [List.length_set, dl]; decide) (hb hby own_d1_27) rfl fun T1 hp1 X1 e1 W1 Vw1 => ?_
  have V2 : Arv Z hp1 d kd .int (20 : Int32) (ds.set 16 (.int (((x &&& (255 : Int32)) % (15 : Int32)) % (5 : Int32)))) (.int (0 : Int32)) := Vw1
  have N1 := Fr.snoc X1 N0 g_d
  have Z3 : n0 ≤ hp1.size := Nat.le_trans Z0 (Keep.of_wr W1).1
  have K4 : Keep h0 hp1 [d] := Kr0.wr W1 (Or.inl (List.mem_of_getElem? (i := 0) rfl))
  refine s_aloadN (pc' := 29) X1.here hx (hb hby own_d1_28) rfl rfl rfl ?_
  refine s_iloadN (pc' := 30) X1.here hx (hb hby own_d1_29) rfl rfl ?_
  refine s_iconst (pc' := 31) X1.here hx (v := (1 : Int32)) (hb hby own_d1_30) rfl rfl ?_
  refine s_iadd (pc' := 32) X1.here hx (hb hby own_d1_31) rfl ?_
  refine s_iloadN (pc' := 33) X1.here hx (hb hby own_d1_32) rfl rfl ?_
  refine s_iconst (pc' := 34) X1.here hx (v := (5 : Int32)) (hb hby own_d1_33) rfl rfl ?_
  refine s_idiv (pc' := 35) X1.here hx (hb hby own_d1_34) (by decide) rfl ?_
  refine s_putI (pc' := 36) X1 hx hZ e1 V2 ⟨by decide, by decide⟩ 17 (by decide) (by simp only [List.length_set, dl]; decide) (hb hby own_d1_35) rfl fun T5 hp5 X5 e5 W5 Vw5 => ?_
  have V6 : Arv Z hp5 d kd .int (20 : Int32) ((ds.set 16 (.int (((x &&& (255 : Int32)) % (15 : Int32)) % (5 : Int32)))).set 17 (.int (((x &&& (255 : Int32)) % (15 : Int32)) / (5 : Int32)))) (.int (0 : Int32)) := Vw5
  have N5 := Fr.snoc X5 N1 g_d
  have Z7 : n0 ≤ hp5.size := Nat.le_trans Z3 (Keep.of_wr W5).1
  have K8 : Keep h0 hp5 [d] := K4.wr W5 (Or.inl (List.mem_of_getElem? (i := 0) rfl))
  refine s_aloadN (pc' := 37) X5.here hx (hb hby own_d1_36) rfl rfl rfl ?_
  refine s_iloadN (pc' := 38) X5.here hx (hb hby own_d1_37) rfl rfl ?_
  refine s_iconst (pc' := 39) X5.here hx (v := (2 : Int32)) (hb hby own_d1_38) rfl rfl ?_
  refine s_iadd (pc' := 40) X5.here hx (hb hby own_d1_39) rfl ?_
  refine s_iload (pc' := 42) X5.here hx (hb hby own_d1_40) rfl rfl ?_
  refine s_iconst (pc' := 43) X5.here hx (v := (5 : Int32)) (hb hby own_d1_42) rfl rfl ?_
  refine s_irem (pc' := 44) X5 hx (hb hby own_d1_43) (by decide) rfl ?_
  refine s_putI (pc' := 45) X5 hx hZ e5 V6 ⟨by decide, by decide⟩ 18 (by decide) (by simp only [List.length_set, dl]; decide) (hb hby own_d1_44) rfl fun T9 hp9 X9 e9 W9 Vw9 => ?_
  have V10 : Arv Z hp9 d kd .int (20 : Int32) (((ds.set 16 (.int (((x &&& (255 : Int32)) % (15 : Int32)) % (5 : Int32)))).set 17 (.int (((x &&& (255 : Int32)) % (15 : Int32)) / (5 : Int32)))).set 18 (.int (((((x.toUInt32 >>> ((8 : Int32) &&& 31).toUInt32).toInt32) &&& (255 : Int32)) % (15 : Int32)) % (5 : Int32)))) (.int (0 : Int32)) := Vw9
  have N9 := Fr.snoc X9 N5 g_d
  have Z11 : n0 ≤ hp9.size := Nat.le_trans Z7 (Keep.of_wr W9).1
  have K12 : Keep h0 hp9 [d] := K8.wr W9 (Or.inl (List.mem_of_getElem? (i := 0) rfl))
  refine s_aloadN (pc' := 46) X9.here hx (hb hby own_d1_45) rfl rfl rfl ?_
  refine s_iloadN (pc' := 47) X9.here hx (hb hby own_d1_46) rfl rfl ?_
  refine s_iconst (pc' := 48) X9.here hx (v := (3 : Int32)) (hb hby own_d1_47) rfl rfl ?_
  refine s_iadd (pc' := 49) X9.here hx (hb hby own_d1_48) rfl ?_
  refine s_iload (pc' := 51) X9.here hx (hb hby own_d1_49) rfl rfl ?_
  refine s_iconst (pc' := 52) X9.here hx (v := (5 : Int32)) (hb hby own_d1_51) rfl rfl ?_
  refine s_idiv (pc' := 53) X9.here hx (hb hby own_d1_52) (by decide) rfl ?_
  refine s_putI (pc' := 54) X9 hx hZ e9 V10 ⟨by decide, by decide⟩ 19 (by decide) (by simp only [List.length_set, dl]; decide) (hb hby own_d1_53) rfl fun T13 hp13 X13 e13 W13 Vw13 => ?_
  have V14 : Arv Z hp13 d kd .int (20 : Int32) ((((ds.set 16 (.int (((x &&& (255 : Int32)) % (15 : Int32)) % (5 : Int32)))).set 17 (.int (((x &&& (255 : Int32)) % (15 : Int32)) / (5 : Int32)))).set 18 (.int (((((x.toUInt32 >>> ((8 : Int32) &&& 31).toUInt32).toInt32) &&& (255 : Int32)) % (15 : Int32)) % (5 : Int32)))).set 19 (.int (((((x.toUInt32 >>> ((8 : Int32) &&& 31).toUInt32).toInt32) &&& (255 : Int32)) % (15 : Int32)) / (5 : Int32)))) (.int (0 : Int32)) := Vw13
  have N13 := Fr.snoc X13 N9 g_d
  have Z15 : n0 ≤ hp13.size := Nat.le_trans Z11 (Keep.of_wr W13).1
  have K16 : Keep h0 hp13 [d] := K12.wr W13 (Or.inl (List.mem_of_getElem? (i := 0) rfl))
  obtain ⟨fs, hr, hrun, hended, hW, hsame⟩ := X13.leave (v := none) (fun _ => rfl)
  refine ⟨_, _, X13.returnOut hx Bd.returns (hb hby own_d1_54) hr, hrun, hended, _, _, rfl, ?_, ⟨_, rfl⟩, hW, hsame.mono (by decide) (by decide)⟩
  show own_fill16_Q Z d x kd ds h0 n0 _ T13.heap _
  rw [e13]
  exact ⟨rfl, N13, K16, V14⟩
theorem own_d2_0 : decode prog_20_method_1_code 0 = .ok (.aload_n 0, 1) := by decide +kernel
theorem own_d2_1 : decode prog_20_method_1_code 1 = .ok (.invokespecial 1, 3) := by decide +kernel
theorem own_d2_4 : decode prog_20_method_1_code 4 = .ok (.aload_n 0, 1) := by decide +kernel
theorem own_d2_5 : decode prog_20_method_1_code 5 = .ok (.sipush 128, 3) := by decide +kernel
theorem own_d2_8 : decode prog_20_method_1_code 8 = .ok (.newarray .int, 2) := by decide +kernel
theorem own_d2_10 : decode prog_20_method_1_code 10 = .ok (.putfield 9, 3) := by decide +kernel
theorem own_d2_13 : decode prog_20_method_1_code 13 = .ok (.aload_n 0, 1) := by decide +kernel
theorem own_d2_14 : decode prog_20_method_1_code 14 = .ok (.bipush 6, 2) := by decide +kernel
theorem own_d2_16 : decode prog_20_method_1_code 16 = .ok (.putfield 13, 3) := by decide +kernel
theorem own_d2_19 : decode prog_20_method_1_code 19 = .ok (.aload_n 0, 1) := by decide +kernel
theorem own_d2_20 : decode prog_20_method_1_code 20 = .ok (.bipush 64, 2) := by decide +kernel
theorem own_d2_22 : decode prog_20_method_1_code 22 = .ok (.newarray .byte, 2) := by decide +kernel
theorem own_d2_24 : decode prog_20_method_1_code 24 = .ok (.putfield 17, 3) := by decide +kernel
theorem own_d2_27 : decode prog_20_method_1_code 27 = .ok (.aload_n 0, 1) := by decide +kernel
theorem own_d2_28 : decode prog_20_method_1_code 28 = .ok (.sipush 192, 3) := by decide +kernel
theorem own_d2_31 : decode prog_20_method_1_code 31 = .ok (.newarray .int, 2) := by decide +kernel
theorem own_d2_33 : decode prog_20_method_1_code 33 = .ok (.putfield 21, 3) := by decide +kernel
theorem own_d2_36 : decode prog_20_method_1_code 36 = .ok (.aload_n 0, 1) := by decide +kernel
theorem own_d2_37 : decode prog_20_method_1_code 37 = .ok (.bipush 64, 2) := by decide +kernel
theorem own_d2_39 : decode prog_20_method_1_code 39 = .ok (.anewarray 2, 3) := by decide +kernel
theorem own_d2_42 : decode prog_20_method_1_code 42 = .ok (.putfield 24, 3) := by decide +kernel
theorem own_d2_45 : decode prog_20_method_1_code 45 = .ok (.return_, 1) := by decide +kernel
theorem own_init_ef (m : MethodId) (a : Addr) : entryFrame m #[(.ref a)] 1 = mkF m 0 #[.val (.ref a)] [] := by first | (simp [entryFrame, mkF, argsToLocals, Value.category]; done) | rfl
def own_init_Q (Z : State) (a : Addr) (h0 : Heap) (n0 : Nat) (v : Option Value) (h : Heap) (L : List Loc) : Prop := ∃ sa kb ka va ks kkb kka kv, v = none ∧ Fr n0 L ∧ Keep h0 h [a] ∧ Exa Z h a "com/example/vestbook/vestbook/FirstCopies" ∧ Fld Z h a "com/example/vestbook/vestbook/FirstCopies" "slots" "[I" (.ref sa) ∧ Fld Z h a "com/example/vestbook/vestbook/FirstCopies" "bits" "I" (.int (6 : Int32)) ∧ Fld Z h a "com/example/vestbook/vestbook/FirstCopies" "keyBytes" "[B" (.ref kb) ∧ Fld Z h a "com/example/vestbook/vestbook/FirstCopies" "keys" "[I" (.ref ka) ∧ Fld Z h a "com/example/vestbook/vestbook/FirstCopies" "values" "[Ljava/lang/Object;" (.ref va) ∧ Fld Z h a "com/example/vestbook/vestbook/FirstCopies" "size" "I" (.int (0 : Int32)) ∧ Fld Z h a "com/example/vestbook/vestbook/FirstCopies" "keyBytesTaken" "I" (.int (0 : Int32)) ∧ Fld Z h a "com/example/vestbook/vestbook/FirstCopies" "recent" "I" (.int (0 : Int32)) ∧ Arv Z h sa ks .int (128 : Int32) (List.replicate 128 (.int (0 : Int32))) (.int (0 : Int32)) ∧ Arv Z h kb kkb .byte (64 : Int32) (List.replicate 64 (.int (0 : Int32))) (.int (0 : Int32)) ∧ Arv Z h ka kka .int (192 : Int32) (List.replicate 192 (.int (0 : Int32))) (.int (0 : Int32)) ∧ Arv Z h va kv (.object "java/lang/Object") (64 : Int32) [] .null ∧ h0.size ≤ sa ∧ h0.size ≤ kb ∧ h0.size ≤ ka ∧ h0.size ≤ va ∧ sa ≠ kb ∧ sa ≠ ka ∧ sa ≠ va ∧ kb ≠ ka ∧ kb ≠ va ∧ ka ≠ va
set_option maxRecDepth 65536 in
set_option maxHeartbeats 40000000 in
theorem own_init (l : Launch) (Z : State) (a0 : Array Value) (hw : ∀ d ∈ tables_1, d.before a0 Z = true) (ws : List Jvm.Cond) (a : Addr) (h0 : Heap) (n0 : Nat) (Z0 : n0 ≤ h0.size) (F_slots : Fld Z h0 a "com/example/vestbook/vestbook/FirstCopies" "slots" "[I" .null) (F_bits : Fld Z h0 a "com/example/vestbook/vestbook/FirstCopies" "bits" "I" (.int (0 : Int32))) (F_keyBytes : Fld Z h0 a "com/example/vestbook/vestbook/FirstCopies" "keyBytes" "[B" .null) (F_keys : Fld Z h0 a "com/example/vestbook/vestbook/FirstCopies" "keys" "[I" .null) (F_values : Fld Z h0 a "com/example/vestbook/vestbook/FirstCopies" "values" "[Ljava/lang/Object;" .null) (F_size : Fld Z h0 a "com/example/vestbook/vestbook/FirstCopies" "size" "I" (.int (0 : Int32))) (F_keyBytesTaken : Fld Z h0 a "com/example/vestbook/vestbook/FirstCopies" "keyBytesTaken" "I" (.int (0 : Int32))) (F_recent : Fld Z h0 a "com/example/vestbook/vestbook/FirstCopies" "recent" "I" (.int (0 : Int32))) (E_a : Exa Z h0 a "com/example/vestbook/vestbook/FirstCopies") (g_a : n0 ≤ a) :
    MetFree l (⟨"com/example/vestbook/vestbook/FirstCopies", "<init>", "()V"⟩ : MethodName) (head1 (Jvm.Cond.code (⟨"com/example/vestbook/vestbook/FirstCopies", "<init>", "()V"⟩ : MethodName) prog_20_method_1_code 1 none :: ws) ({ frames := 1, cells := 4, slots := 448, locals := 12 } : Room)) (fun as_ U => as_ = #[(.ref a)] ∧ Z.Warmed39 U.vm ∧ U.heap = h0) (fun _ _ _ _ _ => True) (fun _ U_ o_ V_ => ∃ v_ L_, o_ = .returned v_ ∧ own_init_Q Z a h0 n0 v_ V_.heap L_ ∧ FrameEnd U_ o_ V_ L_ ({ frames := 1, cells := 4, slots := 448, locals := 12 } : Room).cells ({ frames := 1, cells := 4, slots := 448, locals := 12 } : Room).slots) := by
  refine MetFree.of_bodySF (plainFor_of_name own_pn1) hisR ?_
  intro p e s m args below meth c s₁ Bd hml0 hP hK
  obtain ⟨rfl, hZ, hh⟩ := hP
  have hx := Bd.exec
  have hby := Bd.bytes
  have hml : c.maxLocals = 1 := hml0
  have hown : s.vm.findClass "com/example/vestbook/vestbook/FirstCopies" = some m.cls := findClass_of_methodNamed Bd.named
  have hnm := (name_of_methodNamed Bd.named Bd.method).1
  have X0 : Stand p l e ({ frames := 1, cells := 4, slots := 448, locals := 12 } : Room) s m #[(.ref a)] below meth c s₁ [] 0 0 := Stand.of_body Bd
  have e0 : s₁.heap = h0 := by rw [← hh, Bd.state]; rfl
  have N0 := Fr.nil n0
  refine own_begin (own_init_ef m a) ?_
  show Ends p.tables e below (s₁.setTop (mkF m 0 #[.val (.ref a)] [])) _
  have Kr0 : Keep h0 h0 [a] := Keep.refl h0 _
  refine s_aloadN (pc' := 1) X0.here hx (hb hby own_d2_0) rfl rfl rfl ?_
  refine s_initO (pc' := 4) (W := 0) X0 hx hZ hown (hw _ (List.mem_of_getElem? (i := 12) rfl)) (hw _ (List.mem_of_getElem? (i := 13) rfl)) (hw _ (List.mem_of_getElem? (i := 14) rfl)) e0 (by rw [hml]; rfl) (hb hby own_d2_1) (by decide) (Nat.le_of_eq rfl) (by decide) rfl fun T1 X1 e1 => ?_
  refine s_aloadN (pc' := 5) X1.here hx (hb hby own_d2_4) rfl rfl rfl ?_
  refine s_sipush (pc' := 8) X1.here hx (v := (128 : Int32)) (hb hby own_d2_5) rfl rfl ?_
  refine s_newP (pc' := 10) (cap := 128) X1 hx hZ (hw _ (List.mem_of_getElem? (i := 1) rfl)) e1 (hb hby own_d2_8) (by decide) (by decide) (by decide) (by decide) (by decide) rfl fun T2 hp2 X2 e2 ka2 E2 sa gq2 A2 => ?_
  have g_sa : n0 ≤ sa := Nat.le_trans Z0 (Nat.le_of_eq gq2.symm)
  have sz_sa : h0.size ≤ sa := Nat.le_trans Kr0.1 (Nat.le_of_eq gq2.symm)
  have ne3 : a ≠ sa := Nat.ne_of_lt (Nat.lt_of_lt_of_le E_a.lt (Nat.le_of_eq gq2.symm))
  have fq4 := E_a.ext E2
  have fq5 := F_slots.ext E2
  have fq6 := F_bits.ext E2
  have fq7 := F_keyBytes.ext E2
  have fq8 := F_keys.ext E2
  have fq9 := F_values.ext E2
  have fq10 := F_size.ext E2
  have fq11 := F_keyBytesTaken.ext E2
  have fq12 := F_recent.ext E2
  have Z13 : n0 ≤ hp2.size := Nat.le_trans Z0 E2.1
  have K14 : Keep h0 hp2 [a] := Kr0.ext E2
  have V15 : Arv Z hp2 sa ka2 .int (128 : Int32) (List.replicate 128 (.int (0 : Int32))) (.int (0 : Int32)) := (Arv.new A2 (by decide)).pad (pad_rep [] (.int (0 : Int32)) 128)
  refine s_putF (pc' := 13) (ty := (.array .int)) X2 hx hZ hown (host := "") (Or.inl (hw _ (List.mem_of_getElem? (i := 15) rfl))) Via.refl e2 fq5 fq4 (Or.inl (hw _ (List.mem_of_getElem? (i := 16) rfl))) (hw _ (List.mem_of_getElem? (i := 7) rfl)) (by decide) rfl rfl (hb hby own_d2_10) rfl fun T16 hp16 X16 e16 W16 => ?_
  have N16 := Fr.snoc X16 N0 g_a
  have fq17 := fq4.wr W16
  have fq18 := fq5.same W16
  have fq19 := fq6.other W16 (Or.inr (slot_ne (Or.inl (hw _ (List.mem_of_getElem? (i := 18) rfl))) (Or.inl (hw _ (List.mem_of_getElem? (i := 16) rfl))) (by decide) (t := .int) (t' := (.array .int)) (by decide) (by decide)))
  have fq20 := fq7.other W16 (Or.inr (slot_ne (Or.inl (hw _ (List.mem_of_getElem? (i := 20) rfl))) (Or.inl (hw _ (List.mem_of_getElem? (i := 16) rfl))) (by decide) (t := (.array .byte)) (t' := (.array .int)) (by decide) (by decide)))
  have fq21 := fq8.other W16 (Or.inr (slot_ne (Or.inl (hw _ (List.mem_of_getElem? (i := 22) rfl))) (Or.inl (hw _ (List.mem_of_getElem? (i := 16) rfl))) (by decide) (t := (.array .int)) (t' := (.array .int)) (by decide) (by decide)))
  have fq22 := fq9.other W16 (Or.inr (slot_ne (Or.inl (hw _ (List.mem_of_getElem? (i := 26) rfl))) (Or.inl (hw _ (List.mem_of_getElem? (i := 16) rfl))) (by decide) (t := (.array (.object "java/lang/Object"))) (t' := (.array .int)) (by decide) (by decide)))
  have fq23 := fq10.other W16 (Or.inr (slot_ne (Or.inl (hw _ (List.mem_of_getElem? (i := 35) rfl))) (Or.inl (hw _ (List.mem_of_getElem? (i := 16) rfl))) (by decide) (t := .int) (t' := (.array .int)) (by decide) (by decide)))
  have fq24 := fq11.other W16 (Or.inr (slot_ne (Or.inl (hw _ (List.mem_of_getElem? (i := 60) rfl))) (Or.inl (hw _ (List.mem_of_getElem? (i := 16) rfl))) (by decide) (t := .int) (t' := (.array .int)) (by decide) (by decide)))
  have fq25 := fq12.other W16 (Or.inr (slot_ne (Or.inl (hw _ (List.mem_of_getElem? (i := 33) rfl))) (Or.inl (hw _ (List.mem_of_getElem? (i := 16) rfl))) (by decide) (t := .int) (t' := (.array .int)) (by decide) (by decide)))
  have fq26 := V15.other W16 (Ne.symm ne3)
  have Z27 : n0 ≤ hp16.size := Nat.le_trans Z13 (Keep.of_wr W16).1
  have K28 : Keep h0 hp16 [a] := K14.wr W16 (Or.inl (List.mem_of_getElem? (i := 0) rfl))
  refine s_aloadN (pc' := 14) X16.here hx (hb hby own_d2_13) rfl rfl rfl ?_
  refine s_bipush (pc' := 16) X16.here hx (v := (6 : Int32)) (hb hby own_d2_14) rfl rfl ?_
  refine s_putF (pc' := 19) (ty := .int) X16 hx hZ hown (host := "") (Or.inl (hw _ (List.mem_of_getElem? (i := 17) rfl))) Via.refl e16 fq19 fq17 (Or.inl (hw _ (List.mem_of_getElem? (i := 18) rfl))) (hw _ (List.mem_of_getElem? (i := 7) rfl)) (by decide) rfl rfl (hb hby own_d2_16) rfl fun T29 hp29 X29 e29 W29 => ?_
  have N29 := Fr.snoc X29 N16 g_a
  have fq30 := fq17.wr W29
  have fq31 := fq18.other W29 (Or.inr (slot_ne (Or.inl (hw _ (List.mem_of_getElem? (i := 16) rfl))) (Or.inl (hw _ (List.mem_of_getElem? (i := 18) rfl))) (by decide) (t := (.array .int)) (t' := .int) (by decide) (by decide)))
  have fq32 := fq19.same W29
  have fq33 := fq20.other W29 (Or.inr (slot_ne (Or.inl (hw _ (List.mem_of_getElem? (i := 20) rfl))) (Or.inl (hw _ (List.mem_of_getElem? (i := 18) rfl))) (by decide) (t := (.array .byte)) (t' := .int) (by decide) (by decide)))
  have fq34 := fq21.other W29 (Or.inr (slot_ne (Or.inl (hw _ (List.mem_of_getElem? (i := 22) rfl))) (Or.inl (hw _ (List.mem_of_getElem? (i := 18) rfl))) (by decide) (t := (.array .int)) (t' := .int) (by decide) (by decide)))
  have fq35 := fq22.other W29 (Or.inr (slot_ne (Or.inl (hw _ (List.mem_of_getElem? (i := 26) rfl))) (Or.inl (hw _ (List.mem_of_getElem? (i := 18) rfl))) (by decide) (t := (.array (.object "java/lang/Object"))) (t' := .int) (by decide) (by decide)))
  have fq36 := fq23.other W29 (Or.inr (slot_ne (Or.inl (hw _ (List.mem_of_getElem? (i := 35) rfl))) (Or.inl (hw _ (List.mem_of_getElem? (i := 18) rfl))) (by decide) (t := .int) (t' := .int) (by decide) (by decide)))
  have fq37 := fq24.other W29 (Or.inr (slot_ne (Or.inl (hw _ (List.mem_of_getElem? (i := 60) rfl))) (Or.inl (hw _ (List.mem_of_getElem? (i := 18) rfl))) (by decide) (t := .int) (t' := .int) (by decide) (by decide)))
  have fq38 := fq25.other W29 (Or.inr (slot_ne (Or.inl (hw _ (List.mem_of_getElem? (i := 33) rfl))) (Or.inl (hw _ (List.mem_of_getElem? (i := 18) rfl))) (by decide) (t := .int) (t' := .int) (by decide) (by decide)))
  have fq39 := fq26.other W29 (Ne.symm ne3)
  have Z40 : n0 ≤ hp29.size := Nat.le_trans Z27 (Keep.of_wr W29).1
  have K41 : Keep h0 hp29 [a] := K28.wr W29 (Or.inl (List.mem_of_getElem? (i := 0) rfl))
  refine s_aloadN (pc' := 20) X29.here hx (hb hby own_d2_19) rfl rfl rfl ?_
  refine s_bipush (pc' := 22) X29.here hx (v := (64 : Int32)) (hb hby own_d2_20) rfl rfl ?_
  refine s_newP (pc' := 24) (cap := 64) X29 hx hZ (hw _ (List.mem_of_getElem? (i := 0) rfl)) e29 (hb hby own_d2_22) (by decide) (by decide) (by decide) (by decide) (by decide) rfl fun T42 hp42 X42 e42 ka42 E42 kb gq42 A42 => ?_
  have g_kb : n0 ≤ kb := Nat.le_trans Z40 (Nat.le_of_eq gq42.symm)
  have sz_kb : h0.size ≤ kb := Nat.le_trans K41.1 (Nat.le_of_eq gq42.symm)
  have ne43 : a ≠ kb := Nat.ne_of_lt (Nat.lt_of_lt_of_le fq30.lt (Nat.le_of_eq gq42.symm))
  have ne44 : sa ≠ kb := Nat.ne_of_lt (Nat.lt_of_lt_of_le fq39.lt (Nat.le_of_eq gq42.symm))
  have fq45 := fq30.ext E42
  have fq46 := fq31.ext E42
  have fq47 := fq32.ext E42
  have fq48 := fq33.ext E42
  have fq49 := fq34.ext E42
  have fq50 := fq35.ext E42
  have fq51 := fq36.ext E42
  have fq52 := fq37.ext E42
  have fq53 := fq38.ext E42
  have fq54 := fq39.ext E42
  have Z55 : n0 ≤ hp42.size := Nat.le_trans Z40 E42.1
  have K56 : Keep h0 hp42 [a] := K41.ext E42
  have V57 : Arv Z hp42 kb ka42 .byte (64 : Int32) [(.int (0 : Int32)), (.int (0 : Int32)), (.int (0 : Int32)), (.int (0 : Int32)), (.int (0 : Int32)), (.int (0 : Int32)), (.int (0 : Int32)), (.int (0 : Int32)), (.int (0 : Int32)), (.int (0 : Int32)), (.int (0 : Int32)), (.int (0 : Int32)), (.int (0 : Int32)), (.int (0 : Int32)), (.int (0 : Int32)), (.int (0 : Int32)), (.int (0 : Int32)), (.int (0 : Int32)), (.int (0 : Int32)), (.int (0 : Int32)), (.int (0 : Int32)), (.int (0 : Int32)), (.int (0 : Int32)), (.int (0 : Int32)), (.int (0 : Int32)), (.int (0 : Int32)), (.int (0 : Int32)), (.int (0 : Int32)), (.int (0 : Int32)), (.int (0 : Int32)), (.int (0 : Int32)), (.int (0 : Int32)), (.int (0 : Int32)), (.int (0 : Int32)), (.int (0 : Int32)), (.int (0 : Int32)), (.int (0 : Int32)), (.int (0 : Int32)), (.int (0 : Int32)), (.int (0 : Int32)), (.int (0 : Int32)), (.int (0 : Int32)), (.int (0 : Int32)), (.int (0 : Int32)), (.int (0 : Int32)), (.int (0 : Int32)), (.int (0 : Int32)), (.int (0 : Int32)), (.int (0 : Int32)), (.int (0 : Int32)), (.int (0 : Int32)), (.int (0 : Int32)), (.int (0 : Int32)), (.int (0 : Int32)), (.int (0 : Int32)), (.int (0 : Int32)), (.int (0 : Int32)), (.int (0 : Int32)), (.int (0 : Int32)), (.int (0 : Int32)), (.int (0 : Int32)), (.int (0 : Int32)), (.int (0 : Int32)), (.int (0 : Int32))] (.int (0 : Int32)) := (Arv.new A42 (by decide)).pad (pad_rep [] (.int (0 : Int32)) 64)
  refine s_putF (pc' := 27) (ty := (.array .byte)) X42 hx hZ hown (host := "") (Or.inl (hw _ (List.mem_of_getElem? (i := 19) rfl))) Via.refl e42 fq48 fq45 (Or.inl (hw _ (List.mem_of_getElem? (i := 20) rfl))) (hw _ (List.mem_of_getElem? (i := 7) rfl)) (by decide) rfl rfl (hb hby own_d2_24) rfl fun T58 hp58 X58 e58 W58 => ?_
  have N58 := Fr.snoc X58 N29 g_a
  have fq59 := fq45.wr W58
  have fq60 := fq46.other W58 (Or.inr (slot_ne (Or.inl (hw _ (List.mem_of_getElem? (i := 16) rfl))) (Or.inl (hw _ (List.mem_of_getElem? (i := 20) rfl))) (by decide) (t := (.array .int)) (t' := (.array .byte)) (by decide) (by decide)))
  have fq61 := fq47.other W58 (Or.inr (slot_ne (Or.inl (hw _ (List.mem_of_getElem? (i := 18) rfl))) (Or.inl (hw _ (List.mem_of_getElem? (i := 20) rfl))) (by decide) (t := .int) (t' := (.array .byte)) (by decide) (by decide)))
  have fq62 := fq48.same W58
  have fq63 := fq49.other W58 (Or.inr (slot_ne (Or.inl (hw _ (List.mem_of_getElem? (i := 22) rfl))) (Or.inl (hw _ (List.mem_of_getElem? (i := 20) rfl))) (by decide) (t := (.array .int)) (t' := (.array .byte)) (by decide) (by decide)))
  have fq64 := fq50.other W58 (Or.inr (slot_ne (Or.inl (hw _ (List.mem_of_getElem? (i := 26) rfl))) (Or.inl (hw _ (List.mem_of_getElem? (i := 20) rfl))) (by decide) (t := (.array (.object "java/lang/Object"))) (t' := (.array .byte)) (by decide) (by decide)))
  have fq65 := fq51.other W58 (Or.inr (slot_ne (Or.inl (hw _ (List.mem_of_getElem? (i := 35) rfl))) (Or.inl (hw _ (List.mem_of_getElem? (i := 20) rfl))) (by decide) (t := .int) (t' := (.array .byte)) (by decide) (by decide)))
  have fq66 := fq52.other W58 (Or.inr (slot_ne (Or.inl (hw _ (List.mem_of_getElem? (i := 60) rfl))) (Or.inl (hw _ (List.mem_of_getElem? (i := 20) rfl))) (by decide) (t := .int) (t' := (.array .byte)) (by decide) (by decide)))
  have fq67 := fq53.other W58 (Or.inr (slot_ne (Or.inl (hw _ (List.mem_of_getElem? (i := 33) rfl))) (Or.inl (hw _ (List.mem_of_getElem? (i := 20) rfl))) (by decide) (t := .int) (t' := (.array .byte)) (by decide) (by decide)))
  have fq68 := fq54.other W58 (Ne.symm ne3)
  have fq69 := V57.other W58 (Ne.symm ne43)
  have Z70 : n0 ≤ hp58.size := Nat.le_trans Z55 (Keep.of_wr W58).1
  have K71 : Keep h0 hp58 [a] := K56.wr W58 (Or.inl (List.mem_of_getElem? (i := 0) rfl))
  refine s_aloadN (pc' := 28) X58.here hx (hb hby own_d2_27) rfl rfl rfl ?_
  refine s_sipush (pc' := 31) X58.here hx (v := (192 : Int32)) (hb hby own_d2_28) rfl rfl ?_
  refine s_newP (pc' := 33) (cap := 192) X58 hx hZ (hw _ (List.mem_of_getElem? (i := 1) rfl)) e58 (hb hby own_d2_31) (by decide) (by decide) (by decide) (by decide) (by decide) rfl fun T72 hp72 X72 e72 ka72 E72 ka gq72 A72 => ?_
  have g_ka : n0 ≤ ka := Nat.le_trans Z70 (Nat.le_of_eq gq72.symm)
  have sz_ka : h0.size ≤ ka := Nat.le_trans K71.1 (Nat.le_of_eq gq72.symm)
  have ne73 : a ≠ ka := Nat.ne_of_lt (Nat.lt_of_lt_of_le fq59.lt (Nat.le_of_eq gq72.symm))
  have ne74 : sa ≠ ka := Nat.ne_of_lt (Nat.lt_of_lt_of_le fq68.lt (Nat.le_of_eq gq72.symm))
  have ne75 : kb ≠ ka := Nat.ne_of_lt (Nat.lt_of_lt_of_le fq69.lt (Nat.le_of_eq gq72.symm))
  have fq76 := fq59.ext E72
  have fq77 := fq60.ext E72
  have fq78 := fq61.ext E72
  have fq79 := fq62.ext E72
  have fq80 := fq63.ext E72
  have fq81 := fq64.ext E72
  have fq82 := fq65.ext E72
  have fq83 := fq66.ext E72
  have fq84 := fq67.ext E72
  have fq85 := fq68.ext E72
  have fq86 := fq69.ext E72
  have Z87 : n0 ≤ hp72.size := Nat.le_trans Z70 E72.1
  have K88 : Keep h0 hp72 [a] := K71.ext E72
  have V89 : Arv Z hp72 ka ka72 .int (192 : Int32) (List.replicate 192 (.int (0 : Int32))) (.int (0 : Int32)) := (Arv.new A72 (by decide)).pad (pad_rep [] (.int (0 : Int32)) 192)
  refine s_putF (pc' := 36) (ty := (.array .int)) X72 hx hZ hown (host := "") (Or.inl (hw _ (List.mem_of_getElem? (i := 21) rfl))) Via.refl e72 fq80 fq76 (Or.inl (hw _ (List.mem_of_getElem? (i := 22) rfl))) (hw _ (List.mem_of_getElem? (i := 7) rfl)) (by decide) rfl rfl (hb hby own_d2_33) rfl fun T90 hp90 X90 e90 W90 => ?_
  have N90 := Fr.snoc X90 N58 g_a
  have fq91 := fq76.wr W90
  have fq92 := fq77.other W90 (Or.inr (slot_ne (Or.inl (hw _ (List.mem_of_getElem? (i := 16) rfl))) (Or.inl (hw _ (List.mem_of_getElem? (i := 22) rfl))) (by decide) (t := (.array .int)) (t' := (.array .int)) (by decide) (by decide)))
  have fq93 := fq78.other W90 (Or.inr (slot_ne (Or.inl (hw _ (List.mem_of_getElem? (i := 18) rfl))) (Or.inl (hw _ (List.mem_of_getElem? (i := 22) rfl))) (by decide) (t := .int) (t' := (.array .int)) (by decide) (by decide)))
  have fq94 := fq79.other W90 (Or.inr (slot_ne (Or.inl (hw _ (List.mem_of_getElem? (i := 20) rfl))) (Or.inl (hw _ (List.mem_of_getElem? (i := 22) rfl))) (by decide) (t := (.array .byte)) (t' := (.array .int)) (by decide) (by decide)))
  have fq95 := fq80.same W90
  have fq96 := fq81.other W90 (Or.inr (slot_ne (Or.inl (hw _ (List.mem_of_getElem? (i := 26) rfl))) (Or.inl (hw _ (List.mem_of_getElem? (i := 22) rfl))) (by decide) (t := (.array (.object "java/lang/Object"))) (t' := (.array .int)) (by decide) (by decide)))
  have fq97 := fq82.other W90 (Or.inr (slot_ne (Or.inl (hw _ (List.mem_of_getElem? (i := 35) rfl))) (Or.inl (hw _ (List.mem_of_getElem? (i := 22) rfl))) (by decide) (t := .int) (t' := (.array .int)) (by decide) (by decide)))
  have fq98 := fq83.other W90 (Or.inr (slot_ne (Or.inl (hw _ (List.mem_of_getElem? (i := 60) rfl))) (Or.inl (hw _ (List.mem_of_getElem? (i := 22) rfl))) (by decide) (t := .int) (t' := (.array .int)) (by decide) (by decide)))
  have fq99 := fq84.other W90 (Or.inr (slot_ne (Or.inl (hw _ (List.mem_of_getElem? (i := 33) rfl))) (Or.inl (hw _ (List.mem_of_getElem? (i := 22) rfl))) (by decide) (t := .int) (t' := (.array .int)) (by decide) (by decide)))
  have fq100 := fq85.other W90 (Ne.symm ne3)
  have fq101 := fq86.other W90 (Ne.symm ne43)
  have fq102 := V89.other W90 (Ne.symm ne73)
  have Z103 : n0 ≤ hp90.size := Nat.le_trans Z87 (Keep.of_wr W90).1
  have K104 : Keep h0 hp90 [a] := K88.wr W90 (Or.inl (List.mem_of_getElem? (i := 0) rfl))
  refine s_aloadN (pc' := 37) X90.here hx (hb hby own_d2_36) rfl rfl rfl ?_
  refine s_bipush (pc' := 39) X90.here hx (v := (64 : Int32)) (hb hby own_d2_37) rfl rfl ?_
  refine s_newR (pc' := 42) (cap := 64) X90 hx hZ hown (hw _ (List.mem_of_getElem? (i := 23) rfl)) (hw _ (List.mem_of_getElem? (i := 24) rfl)) e90 (hb hby own_d2_39) (by decide) (by decide) (by decide) (by decide) (by decide) rfl fun T105 hp105 X105 e105 ka105 E105 va gq105 A105 => ?_
  have g_va : n0 ≤ va := Nat.le_trans Z103 (Nat.le_of_eq gq105.symm)
  have sz_va : h0.size ≤ va := Nat.le_trans K104.1 (Nat.le_of_eq gq105.symm)
  have ne106 : a ≠ va := Nat.ne_of_lt (Nat.lt_of_lt_of_le fq91.lt (Nat.le_of_eq gq105.symm))
  have ne107 : sa ≠ va := Nat.ne_of_lt (Nat.lt_of_lt_of_le fq100.lt (Nat.le_of_eq gq105.symm))
  have ne108 : kb ≠ va := Nat.ne_of_lt (Nat.lt_of_lt_of_le fq101.lt (Nat.le_of_eq gq105.symm))
  have ne109 : ka ≠ va := Nat.ne_of_lt (Nat.lt_of_lt_of_le fq102.lt (Nat.le_of_eq gq105.symm))
  have fq110 := fq91.ext E105
  have fq111 := fq92.ext E105
  have fq112 := fq93.ext E105
  have fq113 := fq94.ext E105
  have fq114 := fq95.ext E105
  have fq115 := fq96.ext E105
  have fq116 := fq97.ext E105
  have fq117 := fq98.ext E105
  have fq118 := fq99.ext E105
  have fq119 := fq100.ext E105
  have fq120 := fq101.ext E105
  have fq121 := fq102.ext E105
  have Z122 : n0 ≤ hp105.size := Nat.le_trans Z103 E105.1
  have K123 : Keep h0 hp105 [a] := K104.ext E105
  have V124 : Arv Z hp105 va ka105 (.object "java/lang/Object") (64 : Int32) [] .null := Arv.new A105 (by decide)
  refine s_putF (pc' := 45) (ty := (.array (.object "java/lang/Object"))) X105 hx hZ hown (host := "") (Or.inl (hw _ (List.mem_of_getElem? (i := 25) rfl))) Via.refl e105 fq115 fq110 (Or.inl (hw _ (List.mem_of_getElem? (i := 26) rfl))) (hw _ (List.mem_of_getElem? (i := 7) rfl)) (by decide) rfl rfl (hb hby own_d2_42) rfl fun T125 hp125 X125 e125 W125 => ?_
  have N125 := Fr.snoc X125 N90 g_a
  have fq126 := fq110.wr W125
  have fq127 := fq111.other W125 (Or.inr (slot_ne (Or.inl (hw _ (List.mem_of_getElem? (i := 16) rfl))) (Or.inl (hw _ (List.mem_of_getElem? (i := 26) rfl))) (by decide) (t := (.array .int)) (t' := (.array (.object "java/lang/Object"))) (by decide) (by decide)))
  have fq128 := fq112.other W125 (Or.inr (slot_ne (Or.inl (hw _ (List.mem_of_getElem? (i := 18) rfl))) (Or.inl (hw _ (List.mem_of_getElem? (i := 26) rfl))) (by decide) (t := .int) (t' := (.array (.object "java/lang/Object"))) (by decide) (by decide)))
  have fq129 := fq113.other W125 (Or.inr (slot_ne (Or.inl (hw _ (List.mem_of_getElem? (i := 20) rfl))) (Or.inl (hw _ (List.mem_of_getElem? (i := 26) rfl))) (by decide) (t := (.array .byte)) (t' := (.array (.object "java/lang/Object"))) (by decide) (by decide)))
  have fq130 := fq114.other W125 (Or.inr (slot_ne (Or.inl (hw _ (List.mem_of_getElem? (i := 22) rfl))) (Or.inl (hw _ (List.mem_of_getElem? (i := 26) rfl))) (by decide) (t := (.array .int)) (t' := (.array (.object "java/lang/Object"))) (by decide) (by decide)))
  have fq131 := fq115.same W125
  have fq132 := fq116.other W125 (Or.inr (slot_ne (Or.inl (hw _ (List.mem_of_getElem? (i := 35) rfl))) (Or.inl (hw _ (List.mem_of_getElem? (i := 26) rfl))) (by decide) (t := .int) (t' := (.array (.object "java/lang/Object"))) (by decide) (by decide)))
  have fq133 := fq117.other W125 (Or.inr (slot_ne (Or.inl (hw _ (List.mem_of_getElem? (i := 60) rfl))) (Or.inl (hw _ (List.mem_of_getElem? (i := 26) rfl))) (by decide) (t := .int) (t' := (.array (.object "java/lang/Object"))) (by decide) (by decide)))
  have fq134 := fq118.other W125 (Or.inr (slot_ne (Or.inl (hw _ (List.mem_of_getElem? (i := 33) rfl))) (Or.inl (hw _ (List.mem_of_getElem? (i := 26) rfl))) (by decide) (t := .int) (t' := (.array (.object "java/lang/Object"))) (by decide) (by decide)))
  have fq135 := fq119.other W125 (Ne.symm ne3)
  have fq136 := fq120.other W125 (Ne.symm ne43)
  have fq137 := fq121.other W125 (Ne.symm ne73)
  have fq138 := V124.other W125 (Ne.symm ne106)
  have Z139 : n0 ≤ hp125.size := Nat.le_trans Z122 (Keep.of_wr W125).1
  have K140 : Keep h0 hp125 [a] := K123.wr W125 (Or.inl (List.mem_of_getElem? (i := 0) rfl))
  obtain ⟨fs, hr, hrun, hended, hW, hsame⟩ := X125.leave (v := none) (fun _ => rfl)
  refine ⟨_, _, X125.returnOut hx Bd.returns (hb hby own_d2_45) hr, hrun, hended, _, _, rfl, ?_, ⟨_, rfl⟩, hW, hsame.mono (by decide) (by decide)⟩
  show own_init_Q Z a h0 n0 _ T125.heap _
  rw [e125]
  exact ⟨sa, kb, ka, va, ka2, ka42, ka72, ka105, rfl, N125, K140, fq126, fq127, fq128, fq129, fq130, fq131, fq132, fq133, fq134, fq135, fq136, fq137, fq138, sz_sa, sz_kb, sz_ka, sz_va, ne44, ne74, ne107, ne75, ne108, ne109⟩
abbrev own_K : Type := List Value × List Value
def own_nm (S : List Value) (p : Nat) : Value := S.getD (2 * p + 1) (.int (0 : Int32))
def own_hh (S : List Value) (p : Nat) : Value := S.getD (2 * p) (.int (0 : Int32))
def own_hq (e : own_K) : Int32 := own_hs e.1 (own_hs e.2 0)
def own_p (e : own_K) : Nat := (own_slot (own_hq e)).toNatClampNeg
def own_I (S : List Value) (es : List own_K) (b : Nat) : Prop := (∀ p : Nat, p < 64 → ∃ k h : Int32, own_nm S p = .int k ∧ own_hh S p = .int h ∧ (k = 0 ∨ ∃ (i : Nat) (e : own_K), es[i]? = some e ∧ k.toInt = (i : Int) + 1 ∧ h = own_hq e)) ∧ (∀ (i : Nat) (e : own_K), es[i]? = some e → ∃ j : Nat, (∀ j', j' < j → own_nm S ((own_p e + j') % 64) ≠ .int 0) ∧ ∃ k : Int32, k.toInt = (i : Int) + 1 ∧ own_nm S ((own_p e + j) % 64) = .int k) ∧ (∀ p : Nat, p < 64 → ∃ j : Nat, j ≤ b ∧ own_nm S ((p + j) % 64) = .int 0) ∧ (es.length ≤ 3) ∧ (∀ (i i' : Nat) (e : own_K), es[i]? = some e → es[i']? = some e → i = i') ∧ (S.length = 128)
theorem own_I.num {S : List Value} {es : List own_K} {b : Nat} (I : own_I S es b) : ∀ p : Nat, p < 64 → ∃ k h : Int32, own_nm S p = .int k ∧ own_hh S p = .int h ∧ (k = 0 ∨ ∃ (i : Nat) (e : own_K), es[i]? = some e ∧ k.toInt = (i : Int) + 1 ∧ h = own_hq e) := I.1
theorem own_I.reach {S : List Value} {es : List own_K} {b : Nat} (I : own_I S es b) : ∀ (i : Nat) (e : own_K), es[i]? = some e → ∃ j : Nat, (∀ j', j' < j → own_nm S ((own_p e + j') % 64) ≠ .int 0) ∧ ∃ k : Int32, k.toInt = (i : Int) + 1 ∧ own_nm S ((own_p e + j) % 64) = .int k := I.2.1
theorem own_I.free {S : List Value} {es : List own_K} {b : Nat} (I : own_I S es b) : ∀ p : Nat, p < 64 → ∃ j : Nat, j ≤ b ∧ own_nm S ((p + j) % 64) = .int 0 := I.2.2.1
theorem own_I.few {S : List Value} {es : List own_K} {b : Nat} (I : own_I S es b) : es.length ≤ 3 := I.2.2.2.1
theorem own_I.uniq {S : List Value} {es : List own_K} {b : Nat} (I : own_I S es b) : ∀ (i i' : Nat) (e : own_K), es[i]? = some e → es[i']? = some e → i = i' := I.2.2.2.2.1
theorem own_I.len {S : List Value} {es : List own_K} {b : Nat} (I : own_I S es b) : S.length = 128 := I.2.2.2.2.2
def own_res (es : List own_K) (q : own_K) (res : Int32) : Prop := (∃ i : Nat, es[i]? = some q ∧ res.toInt = i) ∨ ((∀ i : Nat, es[i]? ≠ some q) ∧ res = -1)
theorem own_hit {S : List Value} {es : List own_K} {b : Nat} (I : own_I S es b) {q : own_K} {res nu : Int32} {i : Nat} (hq : es[i]? = some q) (hn : nu.toInt = i) (hr : own_res es q res) : res = nu := by
  rcases hr with ⟨i', h1, h2⟩ | ⟨h1, -⟩
  · have := I.uniq _ _ _ h1 hq
    subst this
    exact Int32.toInt_inj.mp (by omega)
  · exact absurd hq (h1 i)
theorem own_miss {S : List Value} {es : List own_K} {b : Nat} (I : own_I S es b) {q : own_K} {res : Int32} {j : Nat} (hj : ∀ j', j' < j → ∀ (i : Nat) (k : Int32), es[i]? = some q → k.toInt = (i : Int) + 1 → own_nm S ((own_p q + j') % 64) ≠ .int k) (hf : own_nm S ((own_p q + j) % 64) = .int 0) (hr : own_res es q res) : res = -1 := by
  rcases hr with ⟨i, h1, -⟩ | ⟨-, h2⟩
  · obtain ⟨ji, a1, k, a2, a3⟩ := I.reach i q h1
    rcases Nat.lt_trichotomy ji j with h | h | h
    · exact absurd a3 (hj ji h i k h1 a2)
    · subst h
      rw [hf] at a3
      have e0 : (0 : Int32).toInt = 0 := by decide
      rw [← Value.int.inj a3] at a2
      omega
    · exact absurd hf (a1 j h)
  · exact h2
theorem own_2 {s : Int32} (h0 : 0 ≤ s.toInt) (h1 : s.toInt < 64) : ((2 : Int32) * s).toInt = 2 * s.toInt ∧ (((2 : Int32) * s) + (1 : Int32)).toInt = 2 * s.toInt + 1 ∧ ((2 : Int32) * s).toNatClampNeg = 2 * s.toNatClampNeg ∧ (((2 : Int32) * s) + (1 : Int32)).toNatClampNeg = 2 * s.toNatClampNeg + 1 := by
  have e0 : (0 : Int32).toInt = 0 := by decide
  have e2 : (2 : Int32).toInt = 2 := by decide
  have e1 : (1 : Int32).toInt = 1 := by decide
  have q1 := c_imul (2 : Int32) s
  rw [e2] at q1
  have q2 := rng32 ((2 : Int32) * s)
  have a : ((2 : Int32) * s).toInt = 2 * s.toInt := by omega
  have b := own_add1 (f := (2 : Int32) * s) (k := (1 : Int32)) (by omega) (by omega) (by decide) (by decide)
  have n1 := nat_of (own_nlt_ (x := s) (y := 0) (by omega))
  have n2 := nat_of (own_nlt_ (x := (2 : Int32) * s) (y := 0) (by omega))
  refine ⟨a, by omega, by omega, ?_⟩
  rw [b.2, show (1 : Int32).toNatClampNeg = 1 by decide]
  omega
theorem own_sv {s : Int32} {p j : Nat} (h : s.toInt = ((p + j) % 64 : Nat)) : 0 ≤ s.toInt ∧ s.toInt < 64 ∧ s.toNatClampNeg = (p + j) % 64 := by
  have e0 : (0 : Int32).toInt = 0 := by decide
  have a : 0 ≤ s.toInt := by omega
  have b : s.toInt < 64 := by omega
  have n := nat_of (own_nlt_ (x := s) (y := 0) (by omega))
  exact ⟨a, b, by omega⟩
theorem own_2b {s : Int32} (h0 : 0 ≤ s.toInt) (h1 : s.toInt < 64) : (¬ ((2 : Int32) * s) < 0 ∧ ((2 : Int32) * s) < (128 : Int32)) ∧ (¬ (((2 : Int32) * s) + (1 : Int32)) < 0 ∧ (((2 : Int32) * s) + (1 : Int32)) < (128 : Int32)) := by
  have e0 : (0 : Int32).toInt = 0 := by decide
  have e1 : (128 : Int32).toInt = 128 := by decide
  have a := own_2 h0 h1
  exact ⟨⟨own_nlt_ (by omega), own_lt_ (by omega)⟩, own_nlt_ (by omega), own_lt_ (by omega)⟩
theorem own_nuI {kv : Int32} {i : Nat} (h : kv.toInt = (i : Int) + 1) (hi : i < 3) : (kv - (1 : Int32)).toInt = (i : Int) ∧ 0 ≤ (kv - (1 : Int32)).toInt ∧ (kv - (1 : Int32)).toInt ≤ 2 := by
  have one : (1 : Int32).toInt = 1 := by decide
  have q1 := c_isub kv (1 : Int32)
  have q2 := rng32 (kv - (1 : Int32))
  have e : (kv - (1 : Int32)).toInt = (i : Int) := by omega
  exact ⟨e, by omega, by omega⟩
theorem own_p0 (x : Int32) : (own_slot x).toNatClampNeg < 64 ∧ (own_slot x).toInt = (((own_slot x).toNatClampNeg + 0) % 64 : Nat) := by
  have e0 : (0 : Int32).toInt = 0 := by decide
  have a := own_slotR x
  have n := nat_of (own_nlt_ (x := own_slot x) (y := 0) (by omega))
  have b : (own_slot x).toNatClampNeg < 64 := by omega
  exact ⟨b, by rw [Nat.add_zero, Nat.mod_eq_of_lt b]; omega⟩
theorem own_jJ {j J : Nat} (h : j + 0 = J) : j = J := h
theorem own_jS {j kk J : Nat} (h : j + (kk + 1) = J) : j + 1 + kk = J := by omega
theorem own_ltS {j' j : Nat} (h : j' < j + 1) (e : ¬ j' = j) : j' < j := by omega
theorem own_ii {i i' : Nat} {k k' : Int32} (h : k.toInt = (i : Int) + 1) (h' : k'.toInt = (i' : Int) + 1) (e : k = k') : i' = i := by subst e; omega
theorem own_nx {s : Int32} {p j : Nat} (h : s.toInt = ((p + j) % 64 : Nat)) : ((s + (1 : Int32)) &&& (63 : Int32)).toInt = ((p + (j + 1)) % 64 : Nat) := by
  have e1 : (1 : Int32).toInt = 1 := by decide
  have q := c_mask (s + (1 : Int32)) 63 6 (by decide) (by decide)
  have q1 := own_add1 (f := s) (k := (1 : Int32)) (by omega) (by omega) (by decide) (by decide)
  rw [q, q1.1, e1]
  omega
theorem own_d11_0 : decode prog_20_method_13_code 0 = .ok (.iconst 1, 1) := by decide +kernel
theorem own_d11_1 : decode prog_20_method_13_code 1 = .ok (.aload_n 0, 1) := by decide +kernel
theorem own_d11_2 : decode prog_20_method_13_code 2 = .ok (.getfield 13, 3) := by decide +kernel
theorem own_d11_5 : decode prog_20_method_13_code 5 = .ok (.ishl, 1) := by decide +kernel
theorem own_d11_6 : decode prog_20_method_13_code 6 = .ok (.iconst 1, 1) := by decide +kernel
theorem own_d11_7 : decode prog_20_method_13_code 7 = .ok (.isub, 1) := by decide +kernel
theorem own_d11_8 : decode prog_20_method_13_code 8 = .ok (.istore_n 2, 1) := by decide +kernel
theorem own_d11_9 : decode prog_20_method_13_code 9 = .ok (.aload_n 0, 1) := by decide +kernel
theorem own_d11_10 : decode prog_20_method_13_code 10 = .ok (.iload_n 1, 1) := by decide +kernel
theorem own_d11_11 : decode prog_20_method_13_code 11 = .ok (.invokevirtual 88, 3) := by decide +kernel
theorem own_pd1 : parseMethodDescriptor "(I)I" = some ⟨[.int], some .int⟩ := by decide +kernel
theorem own_d11_14 : decode prog_20_method_13_code 14 = .ok (.istore_n 3, 1) := by decide +kernel
theorem own_d11_15 : decode prog_20_method_13_code 15 = .ok (.aload_n 0, 1) := by decide +kernel
theorem own_d11_16 : decode prog_20_method_13_code 16 = .ok (.getfield 9, 3) := by decide +kernel
theorem own_d11_19 : decode prog_20_method_13_code 19 = .ok (.iconst 2, 1) := by decide +kernel
theorem own_d11_20 : decode prog_20_method_13_code 20 = .ok (.iload_n 3, 1) := by decide +kernel
theorem own_d11_21 : decode prog_20_method_13_code 21 = .ok (.imul, 1) := by decide +kernel
theorem own_d11_22 : decode prog_20_method_13_code 22 = .ok (.iconst 1, 1) := by decide +kernel
theorem own_d11_23 : decode prog_20_method_13_code 23 = .ok (.iadd, 1) := by decide +kernel
theorem own_d11_24 : decode prog_20_method_13_code 24 = .ok (.iaload, 1) := by decide +kernel
theorem own_d11_25 : decode prog_20_method_13_code 25 = .ok (.ifCond .eq 12, 3) := by decide +kernel
theorem own_d11_37 : decode prog_20_method_13_code 37 = .ok (.iload_n 3, 1) := by decide +kernel
theorem own_d11_38 : decode prog_20_method_13_code 38 = .ok (.ireturn, 1) := by decide +kernel
theorem own_d11_28 : decode prog_20_method_13_code 28 = .ok (.iload_n 3, 1) := by decide +kernel
theorem own_d11_29 : decode prog_20_method_13_code 29 = .ok (.iconst 1, 1) := by decide +kernel
theorem own_d11_30 : decode prog_20_method_13_code 30 = .ok (.iadd, 1) := by decide +kernel
theorem own_d11_31 : decode prog_20_method_13_code 31 = .ok (.iload_n 2, 1) := by decide +kernel
theorem own_d11_32 : decode prog_20_method_13_code 32 = .ok (.iand, 1) := by decide +kernel
theorem own_d11_33 : decode prog_20_method_13_code 33 = .ok (.istore_n 3, 1) := by decide +kernel
theorem own_d11_34 : decode prog_20_method_13_code 34 = .ok (.goto (-19), 3) := by decide +kernel
theorem own_fs_ef (m : MethodId) (a : Addr) (x : Int32) (sa : Addr) (ks : ClassId) (S : List Value) (es : List own_K) (b : Nat) : entryFrame m #[(.ref a), (.int x)] 4 = mkF m 0 #[.val (.ref a), .val (.int x), .unset, .unset] [] := by first | (simp [entryFrame, mkF, argsToLocals, Value.category]; done) | rfl
def own_fs_Q (Z : State) (a : Addr) (x : Int32) (sa : Addr) (ks : ClassId) (S : List Value) (es : List own_K) (b : Nat) (h0 : Heap) (n0 : Nat) (v : Option Value) (h : Heap) (L : List Loc) : Prop := ∃ sp, v = some (.int sp) ∧ Fr n0 L ∧ h = h0 ∧ ∃ j : Nat, sp.toInt = (((own_slot x).toNatClampNeg + j) % 64 : Nat) ∧ (∀ j', j' < j → own_nm S (((own_slot x).toNatClampNeg + j') % 64) ≠ .int 0) ∧ own_nm S (((own_slot x).toNatClampNeg + j) % 64) = .int 0
set_option maxRecDepth 65536 in
set_option maxHeartbeats 40000000 in
theorem own_fs (l : Launch) (Z : State) (a0 : Array Value) (hw : ∀ d ∈ tables_1, d.before a0 Z = true) (ws : List Jvm.Cond) (a : Addr) (x : Int32) (sa : Addr) (ks : ClassId) (S : List Value) (es : List own_K) (b : Nat) (h0 : Heap) (n0 : Nat) (Z0 : n0 ≤ h0.size) (F_slots : Fld Z h0 a "com/example/vestbook/vestbook/FirstCopies" "slots" "[I" (.ref sa)) (F_bits : Fld Z h0 a "com/example/vestbook/vestbook/FirstCopies" "bits" "I" (.int (6 : Int32))) (V_sa : Arv Z h0 sa ks .int (128 : Int32) S (.int (0 : Int32))) (E_a : Exa Z h0 a "com/example/vestbook/vestbook/FirstCopies") (I : own_I S es b) :
    MetFree l (⟨"com/example/vestbook/vestbook/FirstCopies", "freeSlot", "(I)I"⟩ : MethodName) (head1 (Jvm.Cond.code (⟨"com/example/vestbook/vestbook/FirstCopies", "freeSlot", "(I)I"⟩ : MethodName) prog_20_method_13_code 4 (some .int) :: ws) ({ frames := 1, cells := 0, slots := 0, locals := 13 } : Room)) (fun as_ U => as_ = #[(.ref a), (.int x)] ∧ Z.Warmed39 U.vm ∧ U.heap = h0) (fun _ _ _ _ _ => True) (fun _ U_ o_ V_ => ∃ v_ L_, o_ = .returned v_ ∧ own_fs_Q Z a x sa ks S es b h0 n0 v_ V_.heap L_ ∧ FrameEnd U_ o_ V_ L_ ({ frames := 1, cells := 0, slots := 0, locals := 13 } : Room).cells ({ frames := 1, cells := 0, slots := 0, locals := 13 } : Room).slots) := by
  refine MetFree.of_bodySF (plainFor_of_name own_pn1) hisR ?_
  intro p e s m args below meth c s₁ Bd hml0 hP hK
  obtain ⟨rfl, hZ, hh⟩ := hP
  have hx := Bd.exec
  have hby := Bd.bytes
  have hml : c.maxLocals = 4 := hml0
  have hown : s.vm.findClass "com/example/vestbook/vestbook/FirstCopies" = some m.cls := findClass_of_methodNamed Bd.named
  have hnm := (name_of_methodNamed Bd.named Bd.method).1
  have X0 : Stand p l e ({ frames := 1, cells := 0, slots := 0, locals := 13 } : Room) s m #[(.ref a), (.int x)] below meth c s₁ [] 0 0 := Stand.of_body Bd
  have e0 : s₁.heap = h0 := by rw [← hh, Bd.state]; rfl
  have N0 := Fr.nil n0
  refine own_begin (own_fs_ef m a x sa ks S es b) ?_
  show Ends p.tables e below (s₁.setTop (mkF m 0 #[.val (.ref a), .val (.int x), .unset, .unset] [])) _
  have zero : (0 : Int32).toInt = 0 := by decide
  have one : (1 : Int32).toInt = 1 := by decide
  have two : (2 : Int32).toInt = 2 := by decide
  have six : (6 : Int32).toInt = 6 := by decide
  have c128 : (128 : Int32).toInt = 128 := by decide
  refine s_iconst (pc' := 1) X0.here hx (v := (1 : Int32)) (hb hby own_d11_0) rfl rfl ?_
  refine s_aloadN (pc' := 2) X0.here hx (hb hby own_d11_1) rfl rfl rfl ?_
  refine s_getF (pc' := 5) X0 hx hZ hown (host := "") (Or.inl (hw _ (List.mem_of_getElem? (i := 17) rfl))) Via.refl e0 F_bits (hb hby own_d11_2) rfl fun T1 X1 e1 => ?_
  refine s_ishl (pc' := 6) X1.here hx (hb hby own_d11_5) rfl ?_
  refine s_iconst (pc' := 7) X1.here hx (v := (1 : Int32)) (hb hby own_d11_6) rfl rfl ?_
  refine s_isub (pc' := 8) X1.here hx (hb hby own_d11_7) rfl ?_
  rw [show (((1 : Int32) <<< ((6 : Int32) &&& 31)) - (1 : Int32)) = (63 : Int32) from by decide]
  refine s_istoreN (pc' := 9) X1.here hx (l' := #[.val (.ref a), .val (.int x), .val (.int (63 : Int32)), .unset]) (hb hby own_d11_8) rfl rfl ?_
  refine s_aloadN (pc' := 10) X1.here hx (hb hby own_d11_9) rfl rfl rfl ?_
  refine s_iloadN (pc' := 11) X1.here hx (hb hby own_d11_10) rfl rfl ?_
  refine s_callP (y := (⟨"com/example/vestbook/vestbook/FirstCopies", "slotOf", "(I)I"⟩ : MethodName)) (zz := (⟨"com/example/vestbook/vestbook/FirstCopies", "numberOf", "([BIIII)I"⟩ : MethodName)) (pc' := 14) (W := 0) X1 hx hZ  rfl hown (hw _ (List.mem_of_getElem? (i := 43) rfl)) (hw _ (List.mem_of_getElem? (i := 45) rfl)) (hw _ (List.mem_of_getElem? (i := 8) rfl)) (hw _ (List.mem_of_getElem? (i := 46) rfl)) (hw _ (List.mem_of_getElem? (i := 30) rfl)) (hw _ (List.mem_of_getElem? (i := 44) rfl)) (by decide) e1 E_a (own_so l Z a0 hw [] a x h0 n0 Z0 F_bits) (by rw [hml]; rfl) [(.int x)] [] rfl (lenOf own_pd1 rfl) rfl (Nat.le_of_eq rfl) (by decide) (by decide) (by decide) (by decide) rfl (hb hby own_d11_11) fun T2 v2 Lc2 X2 hQ2 => ?_
  obtain ⟨rfl, Nq2, eh2⟩ := hQ2
  have N2 := Fr.app N0 Nq2
  show Ends p.tables e below (T2.setTop (mkF m 14 #[.val (.ref a), .val (.int x), .val (.int (63 : Int32)), .unset] [(.int (own_slot x))])) _
  refine s_istoreN (pc' := 15) X2.here hx (l' := #[.val (.ref a), .val (.int x), .val (.int (63 : Int32)), .val (.int (own_slot x))]) (hb hby own_d11_14) rfl rfl ?_
  have slR := own_p0 x
  obtain ⟨p0, hp0⟩ : ∃ p0, p0 = (own_slot x).toNatClampNeg := ⟨_, rfl⟩
  rw [← hp0] at slR
  have p064 := slR.1
  obtain ⟨J, -, hJ⟩ := I.free p0 p064
  obtain ⟨LL3, XLL3, NLL3⟩ : ∃ LL, Stand p l e ({ frames := 1, cells := 0, slots := 0, locals := 13 } : Room) s m #[(.ref a), (.int x)] below meth c T2 LL 0 0 ∧ Fr n0 LL := ⟨_, X2, N2⟩
  refine own_join (α := Nat × State × Int32) (fun ⟨kk, TT, sp⟩ => TT.setTop (mkF m 15 #[.val (.ref a), .val (.int x), .val (.int (63 : Int32)), .val (.int sp)] [])) (fun ⟨kk, TT, sp⟩ => Stand p l e ({ frames := 1, cells := 0, slots := 0, locals := 13 } : Room) s m #[(.ref a), (.int x)] below meth c TT LL3 0 0 ∧ TT.heap = h0 ∧ (∃ j : Nat, j + kk = J ∧ sp.toInt = ((p0 + j) % 64 : Nat) ∧ ∀ j', j' < j → own_nm S ((p0 + j') % 64) ≠ .int 0)) (fun key => key (J, T2, (own_slot x)) ⟨XLL3, eh2, ⟨0, Nat.zero_add _, slR.2, fun j' h => absurd h (Nat.not_lt_zero _)⟩⟩) ?_
  rintro ⟨kk, TT, sp⟩ ⟨XX, eX, hI⟩
  dsimp only at XX eX hI ⊢
  induction kk generalizing TT sp with
  | zero =>
    show Ends p.tables e below (TT.setTop (mkF m 15 #[.val (.ref a), .val (.int x), .val (.int (63 : Int32)), .val (.int sp)] [])) _
    obtain ⟨j, hjJ, hsj, hocc⟩ := hI
    obtain ⟨sv0, sv1, svN⟩ := own_sv hsj
    have s2 := own_2 sv0 sv1
    have s2b := own_2b sv0 sv1
    obtain ⟨kv, hv, nmE, hhE, cse⟩ := I.num ((p0 + j) % 64) (Nat.mod_lt _ (by decide))
    have nmE' : S.getD (((2 : Int32) * sp) + (1 : Int32)).toNatClampNeg (.int (0 : Int32)) = .int kv := by rw [s2.2.2.2, svN]; exact nmE
    have hhE' : S.getD ((2 : Int32) * sp).toNatClampNeg (.int (0 : Int32)) = .int hv := by rw [s2.2.2.1, svN]; exact hhE
    refine s_aloadN (pc' := 16) XX.here hx (hb hby own_d11_15) rfl rfl rfl ?_
    refine s_getF (pc' := 19) XX hx hZ hown (host := "") (Or.inl (hw _ (List.mem_of_getElem? (i := 15) rfl))) Via.refl eX F_slots (hb hby own_d11_16) rfl fun T4 X4 e4 => ?_
    refine s_iconst (pc' := 20) X4.here hx (v := (2 : Int32)) (hb hby own_d11_19) rfl rfl ?_
    refine s_iloadN (pc' := 21) X4.here hx (hb hby own_d11_20) rfl rfl ?_
    refine s_imul (pc' := 22) X4.here hx (hb hby own_d11_21) rfl ?_
    refine s_iconst (pc' := 23) X4.here hx (v := (1 : Int32)) (hb hby own_d11_22) rfl rfl ?_
    refine s_iadd (pc' := 24) X4.here hx (hb hby own_d11_23) rfl ?_
    refine s_iaload (pc' := 25) (v := (.int kv)) X4 hx hZ e4 V_sa s2b.2 nmE' (hb hby own_d11_24) rfl ?_
    have kz : kv = 0 := by
      obtain rfl := own_jJ hjJ
      exact Value.int.inj (nmE.symm.trans hJ)
    refine s_ifYes (pc' := 37) X4.here hx (hb hby own_d11_25) ((if0 _ _).trans (teq kz).1) (by decide) (by decide) ?_
    refine s_iloadN (pc' := 38) X4.here hx (hb hby own_d11_37) rfl rfl ?_
    obtain ⟨fs, hr, hrun, hended, hW, hsame⟩ := X4.leave (v := some (.int sp)) (fun h => by rw [Bd.returns] at h; cases h)
    refine ⟨_, _, retOut X4 hx Bd.returns rfl (Or.inl ⟨rfl, Or.inl rfl, _, rfl⟩) (hb hby own_d11_38) hr, hrun, hended, _, _, rfl, ?_, ⟨_, rfl⟩, hW, hsame.mono (by decide) (by decide)⟩
    show own_fs_Q Z a x sa ks S es b h0 n0 _ T4.heap _
    rw [e4]
    exact ⟨sp, rfl, NLL3, rfl, ⟨j, by rw [← hp0]; exact hsj, by rw [← hp0]; exact hocc, by rw [← hp0]; exact nmE.trans (congrArg Value.int kz)⟩⟩
  | succ kk ih =>
    show Ends p.tables e below (TT.setTop (mkF m 15 #[.val (.ref a), .val (.int x), .val (.int (63 : Int32)), .val (.int sp)] [])) _
    obtain ⟨j, hjJ, hsj, hocc⟩ := hI
    obtain ⟨sv0, sv1, svN⟩ := own_sv hsj
    have s2 := own_2 sv0 sv1
    have s2b := own_2b sv0 sv1
    obtain ⟨kv, hv, nmE, hhE, cse⟩ := I.num ((p0 + j) % 64) (Nat.mod_lt _ (by decide))
    have nmE' : S.getD (((2 : Int32) * sp) + (1 : Int32)).toNatClampNeg (.int (0 : Int32)) = .int kv := by rw [s2.2.2.2, svN]; exact nmE
    have hhE' : S.getD ((2 : Int32) * sp).toNatClampNeg (.int (0 : Int32)) = .int hv := by rw [s2.2.2.1, svN]; exact hhE
    refine s_aloadN (pc' := 16) XX.here hx (hb hby own_d11_15) rfl rfl rfl ?_
    refine s_getF (pc' := 19) XX hx hZ hown (host := "") (Or.inl (hw _ (List.mem_of_getElem? (i := 15) rfl))) Via.refl eX F_slots (hb hby own_d11_16) rfl fun T5 X5 e5 => ?_
    refine s_iconst (pc' := 20) X5.here hx (v := (2 : Int32)) (hb hby own_d11_19) rfl rfl ?_
    refine s_iloadN (pc' := 21) X5.here hx (hb hby own_d11_20) rfl rfl ?_
    refine s_imul (pc' := 22) X5.here hx (hb hby own_d11_21) rfl ?_
    refine s_iconst (pc' := 23) X5.here hx (v := (1 : Int32)) (hb hby own_d11_22) rfl rfl ?_
    refine s_iadd (pc' := 24) X5.here hx (hb hby own_d11_23) rfl ?_
    refine s_iaload (pc' := 25) (v := (.int kv)) X5 hx hZ e5 V_sa s2b.2 nmE' (hb hby own_d11_24) rfl ?_
    by_cases kz : kv = (0 : Int32)
    · refine s_ifYes (pc' := 37) X5.here hx (hb hby own_d11_25) ((if0 _ _).trans (teq kz).1) (by decide) (by decide) ?_
      refine s_iloadN (pc' := 38) X5.here hx (hb hby own_d11_37) rfl rfl ?_
      obtain ⟨fs, hr, hrun, hended, hW, hsame⟩ := X5.leave (v := some (.int sp)) (fun h => by rw [Bd.returns] at h; cases h)
      refine ⟨_, _, retOut X5 hx Bd.returns rfl (Or.inl ⟨rfl, Or.inl rfl, _, rfl⟩) (hb hby own_d11_38) hr, hrun, hended, _, _, rfl, ?_, ⟨_, rfl⟩, hW, hsame.mono (by decide) (by decide)⟩
      show own_fs_Q Z a x sa ks S es b h0 n0 _ T5.heap _
      rw [e5]
      exact ⟨sp, rfl, NLL3, rfl, ⟨j, by rw [← hp0]; exact hsj, by rw [← hp0]; exact hocc, by rw [← hp0]; exact nmE.trans (congrArg Value.int kz)⟩⟩
    · refine s_ifNo (pc' := 28) X5.here hx (hb hby own_d11_25) ((if0 _ _).trans (feq kz).1) rfl ?_
      refine s_iloadN (pc' := 29) X5.here hx (hb hby own_d11_28) rfl rfl ?_
      refine s_iconst (pc' := 30) X5.here hx (v := (1 : Int32)) (hb hby own_d11_29) rfl rfl ?_
      refine s_iadd (pc' := 31) X5.here hx (hb hby own_d11_30) rfl ?_
      refine s_iloadN (pc' := 32) X5.here hx (hb hby own_d11_31) rfl rfl ?_
      refine s_iand (pc' := 33) X5.here hx (hb hby own_d11_32) rfl ?_
      refine s_istoreN (pc' := 34) X5.here hx (l' := #[.val (.ref a), .val (.int x), .val (.int (63 : Int32)), .val (.int ((sp + (1 : Int32)) &&& (63 : Int32)))]) (hb hby own_d11_33) rfl rfl ?_
      refine s_goto (pc' := 15) X5.here hx (hb hby own_d11_34) (by decide) (by decide) ?_
      exact ih T5 ((sp + (1 : Int32)) &&& (63 : Int32)) X5 e5 (⟨j + 1, own_jS hjJ, own_nx hsj, fun j' h => by
          by_cases e : j' = j
          · rw [e, nmE]; exact fun q => kz (Value.int.inj q)
          · exact hocc j' (own_ltS h e)⟩)
theorem own_d5_0 : decode prog_20_method_9_code 0 = .ok (.aload_n 1, 1) := by decide +kernel
theorem own_d5_1 : decode prog_20_method_9_code 1 = .ok (.iload_n 2, 1) := by decide +kernel
theorem own_d5_2 : decode prog_20_method_9_code 2 = .ok (.iload_n 3, 1) := by decide +kernel
theorem own_d5_3 : decode prog_20_method_9_code 3 = .ok (.aload_n 1, 1) := by decide +kernel
theorem own_d5_4 : decode prog_20_method_9_code 4 = .ok (.iload 4, 2) := by decide +kernel
theorem own_d5_6 : decode prog_20_method_9_code 6 = .ok (.iload 5, 2) := by decide +kernel
theorem own_d5_8 : decode prog_20_method_9_code 8 = .ok (.iconst 0, 1) := by decide +kernel
theorem own_d5_9 : decode prog_20_method_9_code 9 = .ok (.invokestatic 80, 3) := by decide +kernel
theorem own_pd2 : parseMethodDescriptor "([BIII)I" = some ⟨[(.array .byte), .int, .int, .int], some .int⟩ := by decide +kernel
theorem own_d5_12 : decode prog_20_method_9_code 12 = .ok (.invokestatic 80, 3) := by decide +kernel
theorem own_d5_15 : decode prog_20_method_9_code 15 = .ok (.istore 6, 2) := by decide +kernel
theorem own_d5_17 : decode prog_20_method_9_code 17 = .ok (.iconst 1, 1) := by decide +kernel
theorem own_d5_18 : decode prog_20_method_9_code 18 = .ok (.aload_n 0, 1) := by decide +kernel
theorem own_d5_19 : decode prog_20_method_9_code 19 = .ok (.getfield 13, 3) := by decide +kernel
theorem own_d5_22 : decode prog_20_method_9_code 22 = .ok (.ishl, 1) := by decide +kernel
theorem own_d5_23 : decode prog_20_method_9_code 23 = .ok (.iconst 1, 1) := by decide +kernel
theorem own_d5_24 : decode prog_20_method_9_code 24 = .ok (.isub, 1) := by decide +kernel
theorem own_d5_25 : decode prog_20_method_9_code 25 = .ok (.istore 7, 2) := by decide +kernel
theorem own_d5_27 : decode prog_20_method_9_code 27 = .ok (.aload_n 0, 1) := by decide +kernel
theorem own_d5_28 : decode prog_20_method_9_code 28 = .ok (.iload 6, 2) := by decide +kernel
theorem own_d5_30 : decode prog_20_method_9_code 30 = .ok (.invokevirtual 88, 3) := by decide +kernel
theorem own_d5_33 : decode prog_20_method_9_code 33 = .ok (.istore 8, 2) := by decide +kernel
theorem own_d5_35 : decode prog_20_method_9_code 35 = .ok (.aload_n 0, 1) := by decide +kernel
theorem own_d5_36 : decode prog_20_method_9_code 36 = .ok (.getfield 9, 3) := by decide +kernel
theorem own_d5_39 : decode prog_20_method_9_code 39 = .ok (.iconst 2, 1) := by decide +kernel
theorem own_d5_40 : decode prog_20_method_9_code 40 = .ok (.iload 8, 2) := by decide +kernel
theorem own_d5_42 : decode prog_20_method_9_code 42 = .ok (.imul, 1) := by decide +kernel
theorem own_d5_43 : decode prog_20_method_9_code 43 = .ok (.iconst 1, 1) := by decide +kernel
theorem own_d5_44 : decode prog_20_method_9_code 44 = .ok (.iadd, 1) := by decide +kernel
theorem own_d5_45 : decode prog_20_method_9_code 45 = .ok (.iaload, 1) := by decide +kernel
theorem own_d5_46 : decode prog_20_method_9_code 46 = .ok (.ifCond .eq 69, 3) := by decide +kernel
theorem own_d5_115 : decode prog_20_method_9_code 115 = .ok (.iconst (-1), 1) := by decide +kernel
theorem own_d5_116 : decode prog_20_method_9_code 116 = .ok (.ireturn, 1) := by decide +kernel
theorem own_d5_49 : decode prog_20_method_9_code 49 = .ok (.aload_n 0, 1) := by decide +kernel
theorem own_d5_50 : decode prog_20_method_9_code 50 = .ok (.getfield 9, 3) := by decide +kernel
theorem own_d5_53 : decode prog_20_method_9_code 53 = .ok (.iconst 2, 1) := by decide +kernel
theorem own_d5_54 : decode prog_20_method_9_code 54 = .ok (.iload 8, 2) := by decide +kernel
theorem own_d5_56 : decode prog_20_method_9_code 56 = .ok (.imul, 1) := by decide +kernel
theorem own_d5_57 : decode prog_20_method_9_code 57 = .ok (.iconst 1, 1) := by decide +kernel
theorem own_d5_58 : decode prog_20_method_9_code 58 = .ok (.iadd, 1) := by decide +kernel
theorem own_d5_59 : decode prog_20_method_9_code 59 = .ok (.iaload, 1) := by decide +kernel
theorem own_d5_60 : decode prog_20_method_9_code 60 = .ok (.iconst 1, 1) := by decide +kernel
theorem own_d5_61 : decode prog_20_method_9_code 61 = .ok (.isub, 1) := by decide +kernel
theorem own_d5_62 : decode prog_20_method_9_code 62 = .ok (.istore 9, 2) := by decide +kernel
theorem own_d5_64 : decode prog_20_method_9_code 64 = .ok (.aload_n 0, 1) := by decide +kernel
theorem own_d5_65 : decode prog_20_method_9_code 65 = .ok (.getfield 9, 3) := by decide +kernel
theorem own_d5_68 : decode prog_20_method_9_code 68 = .ok (.iconst 2, 1) := by decide +kernel
theorem own_d5_69 : decode prog_20_method_9_code 69 = .ok (.iload 8, 2) := by decide +kernel
theorem own_d5_71 : decode prog_20_method_9_code 71 = .ok (.imul, 1) := by decide +kernel
theorem own_d5_72 : decode prog_20_method_9_code 72 = .ok (.iaload, 1) := by decide +kernel
theorem own_d5_73 : decode prog_20_method_9_code 73 = .ok (.iload 6, 2) := by decide +kernel
theorem own_d5_75 : decode prog_20_method_9_code 75 = .ok (.if_icmp .ne 28, 3) := by decide +kernel
theorem own_d5_103 : decode prog_20_method_9_code 103 = .ok (.iload 8, 2) := by decide +kernel
theorem own_d5_105 : decode prog_20_method_9_code 105 = .ok (.iconst 1, 1) := by decide +kernel
theorem own_d5_106 : decode prog_20_method_9_code 106 = .ok (.iadd, 1) := by decide +kernel
theorem own_d5_107 : decode prog_20_method_9_code 107 = .ok (.iload 7, 2) := by decide +kernel
theorem own_d5_109 : decode prog_20_method_9_code 109 = .ok (.iand, 1) := by decide +kernel
theorem own_d5_110 : decode prog_20_method_9_code 110 = .ok (.istore 8, 2) := by decide +kernel
theorem own_d5_112 : decode prog_20_method_9_code 112 = .ok (.goto (-77), 3) := by decide +kernel
theorem own_d5_78 : decode prog_20_method_9_code 78 = .ok (.aload_n 0, 1) := by decide +kernel
theorem own_d5_79 : decode prog_20_method_9_code 79 = .ok (.iload 9, 2) := by decide +kernel
theorem own_d5_81 : decode prog_20_method_9_code 81 = .ok (.aload_n 1, 1) := by decide +kernel
theorem own_d5_82 : decode prog_20_method_9_code 82 = .ok (.iload_n 2, 1) := by decide +kernel
theorem own_d5_83 : decode prog_20_method_9_code 83 = .ok (.iload_n 3, 1) := by decide +kernel
theorem own_d5_84 : decode prog_20_method_9_code 84 = .ok (.iload 4, 2) := by decide +kernel
theorem own_d5_86 : decode prog_20_method_9_code 86 = .ok (.iload 5, 2) := by decide +kernel
theorem own_d5_88 : decode prog_20_method_9_code 88 = .ok (.invokevirtual 48, 3) := by decide +kernel
theorem own_pd3 : parseMethodDescriptor "(I[BIIII)Z" = some ⟨[.int, (.array .byte), .int, .int, .int, .int], some .boolean⟩ := by decide +kernel
theorem own_d5_91 : decode prog_20_method_9_code 91 = .ok (.ifCond .eq 12, 3) := by decide +kernel
theorem own_d5_94 : decode prog_20_method_9_code 94 = .ok (.aload_n 0, 1) := by decide +kernel
theorem own_d5_95 : decode prog_20_method_9_code 95 = .ok (.iload 9, 2) := by decide +kernel
theorem own_d5_97 : decode prog_20_method_9_code 97 = .ok (.putfield 45, 3) := by decide +kernel
theorem own_d5_100 : decode prog_20_method_9_code 100 = .ok (.iload 9, 2) := by decide +kernel
theorem own_d5_102 : decode prog_20_method_9_code 102 = .ok (.ireturn, 1) := by decide +kernel
theorem own_se_ef (m : MethodId) (a : Addr) (t : Addr) (k : ClassId) (tb : List Value) (f1 : Int32) (n1 : Int32) (f2 : Int32) (n2 : Int32) (sa : Addr) (ks : ClassId) (S : List Value) (es : List own_K) (b : Nat) (ka : Addr) (kb : Addr) (kka : ClassId) (kkb : ClassId) (K : List Value) (B : List Value) (kt : Int32) (sz : Int32) (rc : Int32) (res : Int32) : entryFrame m #[(.ref a), (.ref t), (.int f1), (.int (f1 + n1)), (.int f2), (.int (f2 + n2))] 10 = mkF m 0 #[.val (.ref a), .val (.ref t), .val (.int f1), .val (.int (f1 + n1)), .val (.int f2), .val (.int (f2 + n2)), .unset, .unset, .unset, .unset] [] := by first | (simp [entryFrame, mkF, argsToLocals, Value.category]; done) | rfl
def own_se_Q (Z : State) (a : Addr) (t : Addr) (k : ClassId) (tb : List Value) (f1 : Int32) (n1 : Int32) (f2 : Int32) (n2 : Int32) (sa : Addr) (ks : ClassId) (S : List Value) (es : List own_K) (b : Nat) (ka : Addr) (kb : Addr) (kka : ClassId) (kkb : ClassId) (K : List Value) (B : List Value) (kt : Int32) (sz : Int32) (rc : Int32) (res : Int32) (h0 : Heap) (n0 : Nat) (v : Option Value) (h : Heap) (L : List Loc) : Prop := ∃ rc', v = some (.int res) ∧ Fr n0 L ∧ Keep h0 h [a] ∧ Fld Z h a "com/example/vestbook/vestbook/FirstCopies" "slots" "[I" (.ref sa) ∧ Fld Z h a "com/example/vestbook/vestbook/FirstCopies" "bits" "I" (.int (6 : Int32)) ∧ Fld Z h a "com/example/vestbook/vestbook/FirstCopies" "keys" "[I" (.ref ka) ∧ Fld Z h a "com/example/vestbook/vestbook/FirstCopies" "keyBytes" "[B" (.ref kb) ∧ Fld Z h a "com/example/vestbook/vestbook/FirstCopies" "size" "I" (.int sz) ∧ Fld Z h a "com/example/vestbook/vestbook/FirstCopies" "recent" "I" (.int rc') ∧ (rc' = rc ∨ (rc' = res ∧ 0 ≤ res.toInt))
set_option maxRecDepth 65536 in
set_option maxHeartbeats 40000000 in
theorem own_se (l : Launch) (Z : State) (a0 : Array Value) (hw : ∀ d ∈ tables_1, d.before a0 Z = true) (ws : List Jvm.Cond) (a : Addr) (t : Addr) (k : ClassId) (tb : List Value) (f1 : Int32) (n1 : Int32) (f2 : Int32) (n2 : Int32) (sa : Addr) (ks : ClassId) (S : List Value) (es : List own_K) (b : Nat) (ka : Addr) (kb : Addr) (kka : ClassId) (kkb : ClassId) (K : List Value) (B : List Value) (kt : Int32) (sz : Int32) (rc : Int32) (res : Int32) (h0 : Heap) (n0 : Nat) (Z0 : n0 ≤ h0.size) (F_slots : Fld Z h0 a "com/example/vestbook/vestbook/FirstCopies" "slots" "[I" (.ref sa)) (F_bits : Fld Z h0 a "com/example/vestbook/vestbook/FirstCopies" "bits" "I" (.int (6 : Int32))) (V_sa : Arv Z h0 sa ks .int (128 : Int32) S (.int (0 : Int32))) (E_a : Exa Z h0 a "com/example/vestbook/vestbook/FirstCopies") (F_keys : Fld Z h0 a "com/example/vestbook/vestbook/FirstCopies" "keys" "[I" (.ref ka)) (F_kb : Fld Z h0 a "com/example/vestbook/vestbook/FirstCopies" "keyBytes" "[B" (.ref kb)) (V_ka : Arv Z h0 ka kka .int (192 : Int32) K (.int (0 : Int32))) (V_kb : Arv Z h0 kb kkb .byte (64 : Int32) B (.int (0 : Int32))) (F_size : Fld Z h0 a "com/example/vestbook/vestbook/FirstCopies" "size" "I" (.int sz)) (F_rec : Fld Z h0 a "com/example/vestbook/vestbook/FirstCopies" "recent" "I" (.int rc)) (g_a : n0 ≤ a) (V_t : Arv Z h0 t k .byte (6 : Int32) tb (.int (0 : Int32))) (ne1 : sa ≠ a) (ne2 : ka ≠ a) (ne3 : kb ≠ a) (ne4 : t ≠ a) (I : own_I S es b) (kt60 : kt.toInt ≤ 60) (Tb : (∀ (i : Nat) (e : own_K) (nu : Int32), es[i]? = some e → nu.toInt = (i : Int) → own_En K B kt nu e.1 e.2)) (B1 : own_B f1 n1) (B2 : own_B f2 n2) (Hr : own_res es (own_A tb f1.toNatClampNeg n1.toNatClampNeg, own_A tb f2.toNatClampNeg n2.toNatClampNeg) res) :
    MetFree l (⟨"com/example/vestbook/vestbook/FirstCopies", "search", "([BIIII)I"⟩ : MethodName) (head1 (Jvm.Cond.code (⟨"com/example/vestbook/vestbook/FirstCopies", "search", "([BIIII)I"⟩ : MethodName) prog_20_method_9_code 10 (some .int) :: ws) ({ frames := 1, cells := 0, slots := 0, locals := 23 } : Room)) (fun as_ U => as_ = #[(.ref a), (.ref t), (.int f1), (.int (f1 + n1)), (.int f2), (.int (f2 + n2))] ∧ Z.Warmed39 U.vm ∧ U.heap = h0) (fun _ _ _ _ _ => True) (fun _ U_ o_ V_ => ∃ v_ L_, o_ = .returned v_ ∧ own_se_Q Z a t k tb f1 n1 f2 n2 sa ks S es b ka kb kka kkb K B kt sz rc res h0 n0 v_ V_.heap L_ ∧ FrameEnd U_ o_ V_ L_ ({ frames := 1, cells := 0, slots := 0, locals := 23 } : Room).cells ({ frames := 1, cells := 0, slots := 0, locals := 23 } : Room).slots) := by
  refine MetFree.of_bodySF (plainFor_of_name own_pn1) hisR ?_
  intro p e s m args below meth c s₁ Bd hml0 hP hK
  obtain ⟨rfl, hZ, hh⟩ := hP
  have hx := Bd.exec
  have hby := Bd.bytes
  have hml : c.maxLocals = 10 := hml0
  have hown : s.vm.findClass "com/example/vestbook/vestbook/FirstCopies" = some m.cls := findClass_of_methodNamed Bd.named
  have hnm := (name_of_methodNamed Bd.named Bd.method).1
  have X0 : Stand p l e ({ frames := 1, cells := 0, slots := 0, locals := 23 } : Room) s m #[(.ref a), (.ref t), (.int f1), (.int (f1 + n1)), (.int f2), (.int (f2 + n2))] below meth c s₁ [] 0 0 := Stand.of_body Bd
  have e0 : s₁.heap = h0 := by rw [← hh, Bd.state]; rfl
  have N0 := Fr.nil n0
  refine own_begin (own_se_ef m a t k tb f1 n1 f2 n2 sa ks S es b ka kb kka kkb K B kt sz rc res) ?_
  show Ends p.tables e below (s₁.setTop (mkF m 0 #[.val (.ref a), .val (.ref t), .val (.int f1), .val (.int (f1 + n1)), .val (.int f2), .val (.int (f2 + n2)), .unset, .unset, .unset, .unset] [])) _
  have Kr0 : Keep h0 h0 [a] := Keep.refl h0 _
  have zero : (0 : Int32).toInt = 0 := by decide
  have one : (1 : Int32).toInt = 1 := by decide
  have two : (2 : Int32).toInt = 2 := by decide
  have six : (6 : Int32).toInt = 6 := by decide
  have c128 : (128 : Int32).toInt = 128 := by decide
  refine s_aloadN (pc' := 1) X0.here hx (hb hby own_d5_0) rfl rfl rfl ?_
  refine s_iloadN (pc' := 2) X0.here hx (hb hby own_d5_1) rfl rfl ?_
  refine s_iloadN (pc' := 3) X0.here hx (hb hby own_d5_2) rfl rfl ?_
  refine s_aloadN (pc' := 4) X0.here hx (hb hby own_d5_3) rfl rfl rfl ?_
  refine s_iload (pc' := 6) X0.here hx (hb hby own_d5_4) rfl rfl ?_
  refine s_iload (pc' := 8) X0.here hx (hb hby own_d5_6) rfl rfl ?_
  refine s_iconst (pc' := 9) X0.here hx (v := (0 : Int32)) (hb hby own_d5_8) rfl rfl ?_
  refine s_callS (pc' := 12) (W := 3) X0 hx hZ  hown (hw _ (List.mem_of_getElem? (i := 40) rfl)) (hw _ (List.mem_of_getElem? (i := 41) rfl)) (hw _ (List.mem_of_getElem? (i := 8) rfl)) (hw _ (List.mem_of_getElem? (i := 42) rfl)) (by decide) e0 (own_hash l Z a0 hw [] t k tb f2 n2 (0 : Int32) h0 n0 Z0 V_t B2) (by rw [hml]; rfl) [(.ref t), (.int f2), (.int (f2 + n2)), (.int (0 : Int32))] [(.int (f1 + n1)), (.int f1), (.ref t)] rfl (lenOf own_pd2 rfl) rfl (Nat.le_of_eq rfl) (by decide) (by decide) (by decide) (by decide) rfl (hb hby own_d5_9) fun T1 v1 Lc1 X1 hQ1 => ?_
  obtain ⟨rfl, Nq1, eh1⟩ := hQ1
  have N1 := Fr.app N0 Nq1
  show Ends p.tables e below (T1.setTop (mkF m 12 #[.val (.ref a), .val (.ref t), .val (.int f1), .val (.int (f1 + n1)), .val (.int f2), .val (.int (f2 + n2)), .unset, .unset, .unset, .unset] [(.int (own_hs (own_A tb f2.toNatClampNeg n2.toNatClampNeg) (0 : Int32))), (.int (f1 + n1)), (.int f1), (.ref t)])) _
  refine s_callS (pc' := 15) (W := 0) X1 hx hZ  hown (hw _ (List.mem_of_getElem? (i := 40) rfl)) (hw _ (List.mem_of_getElem? (i := 41) rfl)) (hw _ (List.mem_of_getElem? (i := 8) rfl)) (hw _ (List.mem_of_getElem? (i := 42) rfl)) (by decide) eh1 (own_hash l Z a0 hw [] t k tb f1 n1 (own_hs (own_A tb f2.toNatClampNeg n2.toNatClampNeg) (0 : Int32)) h0 n0 Z0 V_t B1) (by rw [hml]; rfl) [(.ref t), (.int f1), (.int (f1 + n1)), (.int (own_hs (own_A tb f2.toNatClampNeg n2.toNatClampNeg) (0 : Int32)))] [] rfl (lenOf own_pd2 rfl) rfl (Nat.le_of_eq rfl) (by decide) (by decide) (by decide) (by decide) rfl (hb hby own_d5_12) fun T2 v2 Lc2 X2 hQ2 => ?_
  obtain ⟨rfl, Nq2, eh2⟩ := hQ2
  have N2 := Fr.app N1 Nq2
  show Ends p.tables e below (T2.setTop (mkF m 15 #[.val (.ref a), .val (.ref t), .val (.int f1), .val (.int (f1 + n1)), .val (.int f2), .val (.int (f2 + n2)), .unset, .unset, .unset, .unset] [(.int (own_hs (own_A tb f1.toNatClampNeg n1.toNatClampNeg) (own_hs (own_A tb f2.toNatClampNeg n2.toNatClampNeg) (0 : Int32))))])) _
  obtain ⟨hq, hhq⟩ : ∃ hq, hq = own_hq (own_A tb f1.toNatClampNeg n1.toNatClampNeg, own_A tb f2.toNatClampNeg n2.toNatClampNeg) := ⟨_, rfl⟩
  rw [show own_hs (own_A tb f1.toNatClampNeg n1.toNatClampNeg) (own_hs (own_A tb f2.toNatClampNeg n2.toNatClampNeg) (0 : Int32)) = hq from hhq.symm]
  refine s_istore (pc' := 17) X2.here hx (l' := #[.val (.ref a), .val (.ref t), .val (.int f1), .val (.int (f1 + n1)), .val (.int f2), .val (.int (f2 + n2)), .val (.int hq), .unset, .unset, .unset]) (hb hby own_d5_15) rfl rfl ?_
  refine s_iconst (pc' := 18) X2.here hx (v := (1 : Int32)) (hb hby own_d5_17) rfl rfl ?_
  refine s_aloadN (pc' := 19) X2.here hx (hb hby own_d5_18) rfl rfl rfl ?_
  refine s_getF (pc' := 22) X2 hx hZ hown (host := "") (Or.inl (hw _ (List.mem_of_getElem? (i := 17) rfl))) Via.refl eh2 F_bits (hb hby own_d5_19) rfl fun T3 X3 e3 => ?_
  refine s_ishl (pc' := 23) X3.here hx (hb hby own_d5_22) rfl ?_
  refine s_iconst (pc' := 24) X3.here hx (v := (1 : Int32)) (hb hby own_d5_23) rfl rfl ?_
  refine s_isub (pc' := 25) X3.here hx (hb hby own_d5_24) rfl ?_
  rw [show (((1 : Int32) <<< ((6 : Int32) &&& 31)) - (1 : Int32)) = (63 : Int32) from by decide]
  refine s_istore (pc' := 27) X3.here hx (l' := #[.val (.ref a), .val (.ref t), .val (.int f1), .val (.int (f1 + n1)), .val (.int f2), .val (.int (f2 + n2)), .val (.int hq), .val (.int (63 : Int32)), .unset, .unset]) (hb hby own_d5_25) rfl rfl ?_
  refine s_aloadN (pc' := 28) X3.here hx (hb hby own_d5_27) rfl rfl rfl ?_
  refine s_iload (pc' := 30) X3.here hx (hb hby own_d5_28) rfl rfl ?_
  refine s_callP (y := (⟨"com/example/vestbook/vestbook/FirstCopies", "slotOf", "(I)I"⟩ : MethodName)) (zz := (⟨"com/example/vestbook/vestbook/FirstCopies", "numberOf", "([BIIII)I"⟩ : MethodName)) (pc' := 33) (W := 0) X3 hx hZ  rfl hown (hw _ (List.mem_of_getElem? (i := 43) rfl)) (hw _ (List.mem_of_getElem? (i := 45) rfl)) (hw _ (List.mem_of_getElem? (i := 8) rfl)) (hw _ (List.mem_of_getElem? (i := 46) rfl)) (hw _ (List.mem_of_getElem? (i := 30) rfl)) (hw _ (List.mem_of_getElem? (i := 44) rfl)) (by decide) e3 E_a (own_so l Z a0 hw [] a hq h0 n0 Z0 F_bits) (by rw [hml]; rfl) [(.int hq)] [] rfl (lenOf own_pd1 rfl) rfl (Nat.le_of_eq rfl) (by decide) (by decide) (by decide) (by decide) rfl (hb hby own_d5_30) fun T4 v4 Lc4 X4 hQ4 => ?_
  obtain ⟨rfl, Nq4, eh4⟩ := hQ4
  have N4 := Fr.app N2 Nq4
  show Ends p.tables e below (T4.setTop (mkF m 33 #[.val (.ref a), .val (.ref t), .val (.int f1), .val (.int (f1 + n1)), .val (.int f2), .val (.int (f2 + n2)), .val (.int hq), .val (.int (63 : Int32)), .unset, .unset] [(.int (own_slot hq))])) _
  refine s_istore (pc' := 35) X4.here hx (l' := #[.val (.ref a), .val (.ref t), .val (.int f1), .val (.int (f1 + n1)), .val (.int f2), .val (.int (f2 + n2)), .val (.int hq), .val (.int (63 : Int32)), .val (.int (own_slot hq)), .unset]) (hb hby own_d5_33) rfl rfl ?_
  have slR := own_p0 hq
  obtain ⟨p0, hp0⟩ : ∃ p0, p0 = own_p (own_A tb f1.toNatClampNeg n1.toNatClampNeg, own_A tb f2.toNatClampNeg n2.toNatClampNeg) := ⟨_, rfl⟩
  have p0e : p0 = (own_slot hq).toNatClampNeg := by rw [hp0, hhq]; rfl
  rw [← p0e] at slR
  have p064 := slR.1
  obtain ⟨J, -, hJ⟩ := I.free p0 p064
  obtain ⟨LL5, XLL5, NLL5⟩ : ∃ LL, Stand p l e ({ frames := 1, cells := 0, slots := 0, locals := 23 } : Room) s m #[(.ref a), (.ref t), (.int f1), (.int (f1 + n1)), (.int f2), (.int (f2 + n2))] below meth c T4 LL 0 0 ∧ Fr n0 LL := ⟨_, X4, N4⟩
  refine own_join (α := Nat × State × List Loc × Int32 × Slot) (fun ⟨kk, TT, LLq, sp, sl⟩ => TT.setTop (mkF m 35 #[.val (.ref a), .val (.ref t), .val (.int f1), .val (.int (f1 + n1)), .val (.int f2), .val (.int (f2 + n2)), .val (.int hq), .val (.int (63 : Int32)), .val (.int sp), sl] [])) (fun ⟨kk, TT, LLq, sp, sl⟩ => Stand p l e ({ frames := 1, cells := 0, slots := 0, locals := 23 } : Room) s m #[(.ref a), (.ref t), (.int f1), (.int (f1 + n1)), (.int f2), (.int (f2 + n2))] below meth c TT LLq 0 0 ∧ TT.heap = h0 ∧ Fr n0 LLq ∧ ((sl = .unset ∨ ∃ y : Int32, sl = .val (.int y)) ∧ ∃ j : Nat, j + kk = J ∧ sp.toInt = ((p0 + j) % 64 : Nat) ∧ ∀ j', j' < j → ∀ (i : Nat) (k : Int32), es[i]? = some (own_A tb f1.toNatClampNeg n1.toNatClampNeg, own_A tb f2.toNatClampNeg n2.toNatClampNeg) → k.toInt = (i : Int) + 1 → own_nm S ((p0 + j') % 64) ≠ .int k)) (fun key => key (J, T4, LL5, (own_slot hq), .unset) ⟨XLL5, eh4, NLL5, ⟨Or.inl rfl, 0, Nat.zero_add _, slR.2, fun j' h => absurd h (Nat.not_lt_zero _)⟩⟩) ?_
  rintro ⟨kk, TT, LLq, sp, sl⟩ ⟨XX, eX, NX, hI⟩
  dsimp only at XX eX hI ⊢
  induction kk generalizing TT LLq sp sl with
  | zero =>
    show Ends p.tables e below (TT.setTop (mkF m 35 #[.val (.ref a), .val (.ref t), .val (.int f1), .val (.int (f1 + n1)), .val (.int f2), .val (.int (f2 + n2)), .val (.int hq), .val (.int (63 : Int32)), .val (.int sp), sl] [])) _
    obtain ⟨hsl, j, hjJ, hsj, hno⟩ := hI
    obtain ⟨sv0, sv1, svN⟩ := own_sv hsj
    have s2 := own_2 sv0 sv1
    have s2b := own_2b sv0 sv1
    obtain ⟨kv, hv, nmE, hhE, cse⟩ := I.num ((p0 + j) % 64) (Nat.mod_lt _ (by decide))
    have nmE' : S.getD (((2 : Int32) * sp) + (1 : Int32)).toNatClampNeg (.int (0 : Int32)) = .int kv := by rw [s2.2.2.2, svN]; exact nmE
    have hhE' : S.getD ((2 : Int32) * sp).toNatClampNeg (.int (0 : Int32)) = .int hv := by rw [s2.2.2.1, svN]; exact hhE
    refine s_aloadN (pc' := 36) XX.here hx (hb hby own_d5_35) rfl rfl rfl ?_
    refine s_getF (pc' := 39) XX hx hZ hown (host := "") (Or.inl (hw _ (List.mem_of_getElem? (i := 15) rfl))) Via.refl eX F_slots (hb hby own_d5_36) rfl fun T6 X6 e6 => ?_
    refine s_iconst (pc' := 40) X6.here hx (v := (2 : Int32)) (hb hby own_d5_39) rfl rfl ?_
    refine s_iload (pc' := 42) X6.here hx (hb hby own_d5_40) rfl rfl ?_
    refine s_imul (pc' := 43) X6.here hx (hb hby own_d5_42) rfl ?_
    refine s_iconst (pc' := 44) X6.here hx (v := (1 : Int32)) (hb hby own_d5_43) rfl rfl ?_
    refine s_iadd (pc' := 45) X6.here hx (hb hby own_d5_44) rfl ?_
    refine s_iaload (pc' := 46) (v := (.int kv)) X6 hx hZ e6 V_sa s2b.2 nmE' (hb hby own_d5_45) rfl ?_
    have kz : kv = 0 := by
      obtain rfl := own_jJ hjJ
      exact Value.int.inj (nmE.symm.trans hJ)
    refine s_ifYes (pc' := 115) X6.here hx (hb hby own_d5_46) ((if0 _ _).trans (teq kz).1) (by decide) (by decide) ?_
    refine s_iconst (pc' := 116) X6.here hx (v := (-1 : Int32)) (hb hby own_d5_115) rfl rfl ?_
    have rm1 : res = -1 := own_miss I (by rw [← hp0]; exact hno) (by rw [← hp0]; exact nmE.trans (congrArg Value.int kz)) Hr
    obtain ⟨fs, hr, hrun, hended, hW, hsame⟩ := X6.leave (v := some (.int (-1 : Int32))) (fun h => by rw [Bd.returns] at h; cases h)
    refine ⟨_, _, retOut X6 hx Bd.returns rfl (Or.inl ⟨rfl, Or.inl rfl, _, rfl⟩) (hb hby own_d5_116) hr, hrun, hended, _, _, rfl, ?_, ⟨_, rfl⟩, hW, hsame.mono (by decide) (by decide)⟩
    show own_se_Q Z a t k tb f1 n1 f2 n2 sa ks S es b ka kb kka kkb K B kt sz rc res h0 n0 _ T6.heap _
    rw [e6]
    exact ⟨rc, by rw [rm1] <;> rfl, NX, Kr0, F_slots, F_bits, F_keys, F_kb, F_size, F_rec, Or.inl rfl⟩
  | succ kk ih =>
    show Ends p.tables e below (TT.setTop (mkF m 35 #[.val (.ref a), .val (.ref t), .val (.int f1), .val (.int (f1 + n1)), .val (.int f2), .val (.int (f2 + n2)), .val (.int hq), .val (.int (63 : Int32)), .val (.int sp), sl] [])) _
    obtain ⟨hsl, j, hjJ, hsj, hno⟩ := hI
    obtain ⟨sv0, sv1, svN⟩ := own_sv hsj
    have s2 := own_2 sv0 sv1
    have s2b := own_2b sv0 sv1
    obtain ⟨kv, hv, nmE, hhE, cse⟩ := I.num ((p0 + j) % 64) (Nat.mod_lt _ (by decide))
    have nmE' : S.getD (((2 : Int32) * sp) + (1 : Int32)).toNatClampNeg (.int (0 : Int32)) = .int kv := by rw [s2.2.2.2, svN]; exact nmE
    have hhE' : S.getD ((2 : Int32) * sp).toNatClampNeg (.int (0 : Int32)) = .int hv := by rw [s2.2.2.1, svN]; exact hhE
    refine s_aloadN (pc' := 36) XX.here hx (hb hby own_d5_35) rfl rfl rfl ?_
    refine s_getF (pc' := 39) XX hx hZ hown (host := "") (Or.inl (hw _ (List.mem_of_getElem? (i := 15) rfl))) Via.refl eX F_slots (hb hby own_d5_36) rfl fun T7 X7 e7 => ?_
    refine s_iconst (pc' := 40) X7.here hx (v := (2 : Int32)) (hb hby own_d5_39) rfl rfl ?_
    refine s_iload (pc' := 42) X7.here hx (hb hby own_d5_40) rfl rfl ?_
    refine s_imul (pc' := 43) X7.here hx (hb hby own_d5_42) rfl ?_
    refine s_iconst (pc' := 44) X7.here hx (v := (1 : Int32)) (hb hby own_d5_43) rfl rfl ?_
    refine s_iadd (pc' := 45) X7.here hx (hb hby own_d5_44) rfl ?_
    refine s_iaload (pc' := 46) (v := (.int kv)) X7 hx hZ e7 V_sa s2b.2 nmE' (hb hby own_d5_45) rfl ?_
    by_cases kz : kv = (0 : Int32)
    · refine s_ifYes (pc' := 115) X7.here hx (hb hby own_d5_46) ((if0 _ _).trans (teq kz).1) (by decide) (by decide) ?_
      refine s_iconst (pc' := 116) X7.here hx (v := (-1 : Int32)) (hb hby own_d5_115) rfl rfl ?_
      have rm1 : res = -1 := own_miss I (by rw [← hp0]; exact hno) (by rw [← hp0]; exact nmE.trans (congrArg Value.int kz)) Hr
      obtain ⟨fs, hr, hrun, hended, hW, hsame⟩ := X7.leave (v := some (.int (-1 : Int32))) (fun h => by rw [Bd.returns] at h; cases h)
      refine ⟨_, _, retOut X7 hx Bd.returns rfl (Or.inl ⟨rfl, Or.inl rfl, _, rfl⟩) (hb hby own_d5_116) hr, hrun, hended, _, _, rfl, ?_, ⟨_, rfl⟩, hW, hsame.mono (by decide) (by decide)⟩
      show own_se_Q Z a t k tb f1 n1 f2 n2 sa ks S es b ka kb kka kkb K B kt sz rc res h0 n0 _ T7.heap _
      rw [e7]
      exact ⟨rc, by rw [rm1] <;> rfl, NX, Kr0, F_slots, F_bits, F_keys, F_kb, F_size, F_rec, Or.inl rfl⟩
    · refine s_ifNo (pc' := 49) X7.here hx (hb hby own_d5_46) ((if0 _ _).trans (feq kz).1) rfl ?_
      obtain ⟨i, ee, ie, ki, he⟩ := cse.resolve_left kz
      have ilt : i < 3 := Nat.lt_of_lt_of_le (List.getElem?_eq_some_iff.mp ie).1 I.few
      obtain ⟨nu, hnu⟩ : ∃ nu, nu = kv - (1 : Int32) := ⟨_, rfl⟩
      have nuA := own_nuI ki ilt
      rw [← hnu] at nuA
      have nuI := nuA.1
      rcases hsl with rfl | ⟨y0, rfl⟩
      · show Ends p.tables e below (T7.setTop (mkF m 49 #[.val (.ref a), .val (.ref t), .val (.int f1), .val (.int (f1 + n1)), .val (.int f2), .val (.int (f2 + n2)), .val (.int hq), .val (.int (63 : Int32)), .val (.int sp), .unset] [])) _
        refine s_aloadN (pc' := 50) X7.here hx (hb hby own_d5_49) rfl rfl rfl ?_
        refine s_getF (pc' := 53) X7 hx hZ hown (host := "") (Or.inl (hw _ (List.mem_of_getElem? (i := 15) rfl))) Via.refl e7 F_slots (hb hby own_d5_50) rfl fun T8 X8 e8 => ?_
        refine s_iconst (pc' := 54) X8.here hx (v := (2 : Int32)) (hb hby own_d5_53) rfl rfl ?_
        refine s_iload (pc' := 56) X8.here hx (hb hby own_d5_54) rfl rfl ?_
        refine s_imul (pc' := 57) X8.here hx (hb hby own_d5_56) rfl ?_
        refine s_iconst (pc' := 58) X8.here hx (v := (1 : Int32)) (hb hby own_d5_57) rfl rfl ?_
        refine s_iadd (pc' := 59) X8.here hx (hb hby own_d5_58) rfl ?_
        refine s_iaload (pc' := 60) (v := (.int kv)) X8 hx hZ e8 V_sa s2b.2 nmE' (hb hby own_d5_59) rfl ?_
        refine s_iconst (pc' := 61) X8.here hx (v := (1 : Int32)) (hb hby own_d5_60) rfl rfl ?_
        refine s_isub (pc' := 62) X8.here hx (hb hby own_d5_61) rfl ?_
        rw [← hnu]
        show Ends p.tables e below (T8.setTop (mkF m 62 #[.val (.ref a), .val (.ref t), .val (.int f1), .val (.int (f1 + n1)), .val (.int f2), .val (.int (f2 + n2)), .val (.int hq), .val (.int (63 : Int32)), .val (.int sp), .unset] [(.int nu)])) _
        refine s_istore (pc' := 64) X8.here hx (l' := #[.val (.ref a), .val (.ref t), .val (.int f1), .val (.int (f1 + n1)), .val (.int f2), .val (.int (f2 + n2)), .val (.int hq), .val (.int (63 : Int32)), .val (.int sp), .val (.int nu)]) (hb hby own_d5_62) rfl rfl ?_
        refine s_aloadN (pc' := 65) X8.here hx (hb hby own_d5_64) rfl rfl rfl ?_
        refine s_getF (pc' := 68) X8 hx hZ hown (host := "") (Or.inl (hw _ (List.mem_of_getElem? (i := 15) rfl))) Via.refl e8 F_slots (hb hby own_d5_65) rfl fun T9 X9 e9 => ?_
        refine s_iconst (pc' := 69) X9.here hx (v := (2 : Int32)) (hb hby own_d5_68) rfl rfl ?_
        refine s_iload (pc' := 71) X9.here hx (hb hby own_d5_69) rfl rfl ?_
        refine s_imul (pc' := 72) X9.here hx (hb hby own_d5_71) rfl ?_
        refine s_iaload (pc' := 73) (v := (.int hv)) X9 hx hZ e9 V_sa s2b.1 hhE' (hb hby own_d5_72) rfl ?_
        refine s_iload (pc' := 75) X9.here hx (hb hby own_d5_73) rfl rfl ?_
        by_cases hhv : hv = hq
        · refine s_icmpNo (pc' := 78) X9.here hx (hb hby own_d5_75) (teq hhv).2 rfl ?_
          refine s_aloadN (pc' := 79) X9.here hx (hb hby own_d5_78) rfl rfl rfl ?_
          refine s_iload (pc' := 81) X9.here hx (hb hby own_d5_79) rfl rfl ?_
          refine s_aloadN (pc' := 82) X9.here hx (hb hby own_d5_81) rfl rfl rfl ?_
          refine s_iloadN (pc' := 83) X9.here hx (hb hby own_d5_82) rfl rfl ?_
          refine s_iloadN (pc' := 84) X9.here hx (hb hby own_d5_83) rfl rfl ?_
          refine s_iload (pc' := 86) X9.here hx (hb hby own_d5_84) rfl rfl ?_
          refine s_iload (pc' := 88) X9.here hx (hb hby own_d5_86) rfl rfl ?_
          obtain ⟨rr, rr01, hrr⟩ := own_pick (ee.1 = own_A tb f1.toNatClampNeg n1.toNatClampNeg ∧ ee.2 = own_A tb f2.toNatClampNeg n2.toNatClampNeg)
          refine s_callP (y := (⟨"com/example/vestbook/vestbook/FirstCopies", "matches", "(I[BIIII)Z"⟩ : MethodName)) (zz := (⟨"com/example/vestbook/vestbook/FirstCopies", "numberOf", "([BIIII)I"⟩ : MethodName)) (pc' := 91) (W := 0) X9 hx hZ  rfl hown (hw _ (List.mem_of_getElem? (i := 75) rfl)) (hw _ (List.mem_of_getElem? (i := 77) rfl)) (hw _ (List.mem_of_getElem? (i := 8) rfl)) (hw _ (List.mem_of_getElem? (i := 78) rfl)) (hw _ (List.mem_of_getElem? (i := 30) rfl)) (hw _ (List.mem_of_getElem? (i := 76) rfl)) (by decide) e9 E_a (own_mt l Z a0 hw [] a nu t k tb f1 n1 f2 n2 ka kb kka kkb K B kt ee.1 ee.2 rr h0 n0 Z0 V_t F_keys F_kb V_ka V_kb nuA.2.1 nuA.2.2 kt60 (Tb i ee nu ie nuI) B1 B2 rr01 hrr) (by rw [hml]; rfl) [(.int nu), (.ref t), (.int f1), (.int (f1 + n1)), (.int f2), (.int (f2 + n2))] [] rfl (lenOf own_pd3 rfl) rfl (Nat.le_of_eq rfl) (by decide) (by decide) (by decide) (by decide) rfl (hb hby own_d5_88) fun T10 v10 Lc10 X10 hQ10 => ?_
          obtain ⟨rfl, Nq10, eh10⟩ := hQ10
          have N10 := Fr.app NX Nq10
          show Ends p.tables e below (T10.setTop (mkF m 91 #[.val (.ref a), .val (.ref t), .val (.int f1), .val (.int (f1 + n1)), .val (.int f2), .val (.int (f2 + n2)), .val (.int hq), .val (.int (63 : Int32)), .val (.int sp), .val (.int nu)] [(.int rr)])) _
          by_cases hrz : rr = (0 : Int32)
          · refine s_ifYes (pc' := 103) X10.here hx (hb hby own_d5_91) ((if0 _ _).trans (teq hrz).1) (by decide) (by decide) ?_
            refine s_iload (pc' := 105) X10.here hx (hb hby own_d5_103) rfl rfl ?_
            refine s_iconst (pc' := 106) X10.here hx (v := (1 : Int32)) (hb hby own_d5_105) rfl rfl ?_
            refine s_iadd (pc' := 107) X10.here hx (hb hby own_d5_106) rfl ?_
            refine s_iload (pc' := 109) X10.here hx (hb hby own_d5_107) rfl rfl ?_
            refine s_iand (pc' := 110) X10.here hx (hb hby own_d5_109) rfl ?_
            refine s_istore (pc' := 112) X10.here hx (l' := #[.val (.ref a), .val (.ref t), .val (.int f1), .val (.int (f1 + n1)), .val (.int f2), .val (.int (f2 + n2)), .val (.int hq), .val (.int (63 : Int32)), .val (.int ((sp + (1 : Int32)) &&& (63 : Int32))), .val (.int nu)]) (hb hby own_d5_110) rfl rfl ?_
            refine s_goto (pc' := 35) X10.here hx (hb hby own_d5_112) (by decide) (by decide) ?_
            exact ih T10 _ ((sp + (1 : Int32)) &&& (63 : Int32)) (.val (.int nu)) X10 eh10 N10 (⟨Or.inr ⟨_, rfl⟩, j + 1, own_jS hjJ, own_nx hsj, fun j' h i' k' q1 q2 => by
                by_cases e' : j' = j
                · rw [e', nmE]
                  intro q3
                  have q4 : i' = i := own_ii ki q2 (Value.int.inj q3)
                  rw [q4, ie] at q1
                  exact absurd (hrr.mpr (by rw [Option.some.inj q1]; exact ⟨rfl, rfl⟩)) (by rw [hrz]; decide)
                · exact hno j' (own_ltS h e') i' k' q1 q2⟩)
          · refine s_ifNo (pc' := 94) X10.here hx (hb hby own_d5_91) ((if0 _ _).trans (feq hrz).1) rfl ?_
            refine s_aloadN (pc' := 95) X10.here hx (hb hby own_d5_94) rfl rfl rfl ?_
            refine s_iload (pc' := 97) X10.here hx (hb hby own_d5_95) rfl rfl ?_
            have heq := hrr.mp (rr01.resolve_left hrz)
            have rn : res = nu := own_hit I (q := (own_A tb f1.toNatClampNeg n1.toNatClampNeg, own_A tb f2.toNatClampNeg n2.toNatClampNeg)) (i := i) (by rw [ie, ← heq.1, ← heq.2]) nuI Hr
            refine s_putF (pc' := 100) (ty := .int) X10 hx hZ hown (host := "") (Or.inl (hw _ (List.mem_of_getElem? (i := 32) rfl))) Via.refl eh10 F_rec E_a (Or.inl (hw _ (List.mem_of_getElem? (i := 33) rfl))) (hw _ (List.mem_of_getElem? (i := 7) rfl)) (by decide) rfl rfl (hb hby own_d5_97) rfl fun T11 hp11 X11 e11 W11 => ?_
            have N11 := Fr.snoc X11 N10 g_a
            have fq12 := F_slots.other W11 (Or.inr (slot_ne (Or.inl (hw _ (List.mem_of_getElem? (i := 16) rfl))) (Or.inl (hw _ (List.mem_of_getElem? (i := 33) rfl))) (by decide) (t := (.array .int)) (t' := .int) (by decide) (by decide)))
            have fq13 := F_bits.other W11 (Or.inr (slot_ne (Or.inl (hw _ (List.mem_of_getElem? (i := 18) rfl))) (Or.inl (hw _ (List.mem_of_getElem? (i := 33) rfl))) (by decide) (t := .int) (t' := .int) (by decide) (by decide)))
            have fq14 := V_sa.other W11 ne1
            have fq15 := E_a.wr W11
            have fq16 := F_keys.other W11 (Or.inr (slot_ne (Or.inl (hw _ (List.mem_of_getElem? (i := 22) rfl))) (Or.inl (hw _ (List.mem_of_getElem? (i := 33) rfl))) (by decide) (t := (.array .int)) (t' := .int) (by decide) (by decide)))
            have fq17 := F_kb.other W11 (Or.inr (slot_ne (Or.inl (hw _ (List.mem_of_getElem? (i := 20) rfl))) (Or.inl (hw _ (List.mem_of_getElem? (i := 33) rfl))) (by decide) (t := (.array .byte)) (t' := .int) (by decide) (by decide)))
            have fq18 := V_ka.other W11 ne2
            have fq19 := V_kb.other W11 ne3
            have fq20 := V_t.other W11 ne4
            have fq21 := F_size.other W11 (Or.inr (slot_ne (Or.inl (hw _ (List.mem_of_getElem? (i := 35) rfl))) (Or.inl (hw _ (List.mem_of_getElem? (i := 33) rfl))) (by decide) (t := .int) (t' := .int) (by decide) (by decide)))
            have fq22 := F_rec.same W11
            have Z23 : n0 ≤ hp11.size := Nat.le_trans Z0 (Keep.of_wr W11).1
            have K24 : Keep h0 hp11 [a] := Kr0.wr W11 (Or.inl (List.mem_of_getElem? (i := 0) rfl))
            refine s_iload (pc' := 102) X11.here hx (hb hby own_d5_100) rfl rfl ?_
            obtain ⟨fs, hr, hrun, hended, hW, hsame⟩ := X11.leave (v := some (.int nu)) (fun h => by rw [Bd.returns] at h; cases h)
            refine ⟨_, _, retOut X11 hx Bd.returns rfl (Or.inl ⟨rfl, Or.inl rfl, _, rfl⟩) (hb hby own_d5_102) hr, hrun, hended, _, _, rfl, ?_, ⟨_, rfl⟩, hW, hsame.mono (by decide) (by decide)⟩
            show own_se_Q Z a t k tb f1 n1 f2 n2 sa ks S es b ka kb kka kkb K B kt sz rc res h0 n0 _ T11.heap _
            rw [e11]
            exact ⟨nu, by rw [rn], N11, K24, fq12, fq13, fq16, fq17, fq21, fq22, Or.inr ⟨rn.symm, rn ▸ nuA.2.1⟩⟩
        · refine s_icmpYes (pc' := 103) X9.here hx (hb hby own_d5_75) (feq hhv).2 (by decide) (by decide) ?_
          refine s_iload (pc' := 105) X9.here hx (hb hby own_d5_103) rfl rfl ?_
          refine s_iconst (pc' := 106) X9.here hx (v := (1 : Int32)) (hb hby own_d5_105) rfl rfl ?_
          refine s_iadd (pc' := 107) X9.here hx (hb hby own_d5_106) rfl ?_
          refine s_iload (pc' := 109) X9.here hx (hb hby own_d5_107) rfl rfl ?_
          refine s_iand (pc' := 110) X9.here hx (hb hby own_d5_109) rfl ?_
          refine s_istore (pc' := 112) X9.here hx (l' := #[.val (.ref a), .val (.ref t), .val (.int f1), .val (.int (f1 + n1)), .val (.int f2), .val (.int (f2 + n2)), .val (.int hq), .val (.int (63 : Int32)), .val (.int ((sp + (1 : Int32)) &&& (63 : Int32))), .val (.int nu)]) (hb hby own_d5_110) rfl rfl ?_
          refine s_goto (pc' := 35) X9.here hx (hb hby own_d5_112) (by decide) (by decide) ?_
          exact ih T9 _ ((sp + (1 : Int32)) &&& (63 : Int32)) (.val (.int nu)) X9 e9 NX (⟨Or.inr ⟨_, rfl⟩, j + 1, own_jS hjJ, own_nx hsj, fun j' h i' k' q1 q2 => by
              by_cases e' : j' = j
              · rw [e', nmE]
                intro q3
                have q4 : i' = i := own_ii ki q2 (Value.int.inj q3)
                rw [q4, ie] at q1
                exact hhv (by rw [he, Option.some.inj q1, hhq])
              · exact hno j' (own_ltS h e') i' k' q1 q2⟩)
      · show Ends p.tables e below (T7.setTop (mkF m 49 #[.val (.ref a), .val (.ref t), .val (.int f1), .val (.int (f1 + n1)), .val (.int f2), .val (.int (f2 + n2)), .val (.int hq), .val (.int (63 : Int32)), .val (.int sp), .val (.int y0)] [])) _
        refine s_aloadN (pc' := 50) X7.here hx (hb hby own_d5_49) rfl rfl rfl ?_
        refine s_getF (pc' := 53) X7 hx hZ hown (host := "") (Or.inl (hw _ (List.mem_of_getElem? (i := 15) rfl))) Via.refl e7 F_slots (hb hby own_d5_50) rfl fun T25 X25 e25 => ?_
        refine s_iconst (pc' := 54) X25.here hx (v := (2 : Int32)) (hb hby own_d5_53) rfl rfl ?_
        refine s_iload (pc' := 56) X25.here hx (hb hby own_d5_54) rfl rfl ?_
        refine s_imul (pc' := 57) X25.here hx (hb hby own_d5_56) rfl ?_
        refine s_iconst (pc' := 58) X25.here hx (v := (1 : Int32)) (hb hby own_d5_57) rfl rfl ?_
        refine s_iadd (pc' := 59) X25.here hx (hb hby own_d5_58) rfl ?_
        refine s_iaload (pc' := 60) (v := (.int kv)) X25 hx hZ e25 V_sa s2b.2 nmE' (hb hby own_d5_59) rfl ?_
        refine s_iconst (pc' := 61) X25.here hx (v := (1 : Int32)) (hb hby own_d5_60) rfl rfl ?_
        refine s_isub (pc' := 62) X25.here hx (hb hby own_d5_61) rfl ?_
        rw [← hnu]
        show Ends p.tables e below (T25.setTop (mkF m 62 #[.val (.ref a), .val (.ref t), .val (.int f1), .val (.int (f1 + n1)), .val (.int f2), .val (.int (f2 + n2)), .val (.int hq), .val (.int (63 : Int32)), .val (.int sp), .val (.int y0)] [(.int nu)])) _
        refine s_istore (pc' := 64) X25.here hx (l' := #[.val (.ref a), .val (.ref t), .val (.int f1), .val (.int (f1 + n1)), .val (.int f2), .val (.int (f2 + n2)), .val (.int hq), .val (.int (63 : Int32)), .val (.int sp), .val (.int nu)]) (hb hby own_d5_62) rfl rfl ?_
        refine s_aloadN (pc' := 65) X25.here hx (hb hby own_d5_64) rfl rfl rfl ?_
        refine s_getF (pc' := 68) X25 hx hZ hown (host := "") (Or.inl (hw _ (List.mem_of_getElem? (i := 15) rfl))) Via.refl e25 F_slots (hb hby own_d5_65) rfl fun T26 X26 e26 => ?_
        refine s_iconst (pc' := 69) X26.here hx (v := (2 : Int32)) (hb hby own_d5_68) rfl rfl ?_
        refine s_iload (pc' := 71) X26.here hx (hb hby own_d5_69) rfl rfl ?_
        refine s_imul (pc' := 72) X26.here hx (hb hby own_d5_71) rfl ?_
        refine s_iaload (pc' := 73) (v := (.int hv)) X26 hx hZ e26 V_sa s2b.1 hhE' (hb hby own_d5_72) rfl ?_
        refine s_iload (pc' := 75) X26.here hx (hb hby own_d5_73) rfl rfl ?_
        by_cases hhv : hv = hq
        · refine s_icmpNo (pc' := 78) X26.here hx (hb hby own_d5_75) (teq hhv).2 rfl ?_
          refine s_aloadN (pc' := 79) X26.here hx (hb hby own_d5_78) rfl rfl rfl ?_
          refine s_iload (pc' := 81) X26.here hx (hb hby own_d5_79) rfl rfl ?_
          refine s_aloadN (pc' := 82) X26.here hx (hb hby own_d5_81) rfl rfl rfl ?_
          refine s_iloadN (pc' := 83) X26.here hx (hb hby own_d5_82) rfl rfl ?_
          refine s_iloadN (pc' := 84) X26.here hx (hb hby own_d5_83) rfl rfl ?_
          refine s_iload (pc' := 86) X26.here hx (hb hby own_d5_84) rfl rfl ?_
          refine s_iload (pc' := 88) X26.here hx (hb hby own_d5_86) rfl rfl ?_
          obtain ⟨rr, rr01, hrr⟩ := own_pick (ee.1 = own_A tb f1.toNatClampNeg n1.toNatClampNeg ∧ ee.2 = own_A tb f2.toNatClampNeg n2.toNatClampNeg)
          refine s_callP (y := (⟨"com/example/vestbook/vestbook/FirstCopies", "matches", "(I[BIIII)Z"⟩ : MethodName)) (zz := (⟨"com/example/vestbook/vestbook/FirstCopies", "numberOf", "([BIIII)I"⟩ : MethodName)) (pc' := 91) (W := 0) X26 hx hZ  rfl hown (hw _ (List.mem_of_getElem? (i := 75) rfl)) (hw _ (List.mem_of_getElem? (i := 77) rfl)) (hw _ (List.mem_of_getElem? (i := 8) rfl)) (hw _ (List.mem_of_getElem? (i := 78) rfl)) (hw _ (List.mem_of_getElem? (i := 30) rfl)) (hw _ (List.mem_of_getElem? (i := 76) rfl)) (by decide) e26 E_a (own_mt l Z a0 hw [] a nu t k tb f1 n1 f2 n2 ka kb kka kkb K B kt ee.1 ee.2 rr h0 n0 Z0 V_t F_keys F_kb V_ka V_kb nuA.2.1 nuA.2.2 kt60 (Tb i ee nu ie nuI) B1 B2 rr01 hrr) (by rw [hml]; rfl) [(.int nu), (.ref t), (.int f1), (.int (f1 + n1)), (.int f2), (.int (f2 + n2))] [] rfl (lenOf own_pd3 rfl) rfl (Nat.le_of_eq rfl) (by decide) (by decide) (by decide) (by decide) rfl (hb hby own_d5_88) fun T27 v27 Lc27 X27 hQ27 => ?_
          obtain ⟨rfl, Nq27, eh27⟩ := hQ27
          have N27 := Fr.app NX Nq27
          show Ends p.tables e below (T27.setTop (mkF m 91 #[.val (.ref a), .val (.ref t), .val (.int f1), .val (.int (f1 + n1)), .val (.int f2), .val (.int (f2 + n2)), .val (.int hq), .val (.int (63 : Int32)), .val (.int sp), .val (.int nu)] [(.int rr)])) _
          by_cases hrz : rr = (0 : Int32)
          · refine s_ifYes (pc' := 103) X27.here hx (hb hby own_d5_91) ((if0 _ _).trans (teq hrz).1) (by decide) (by decide) ?_
            refine s_iload (pc' := 105) X27.here hx (hb hby own_d5_103) rfl rfl ?_
            refine s_iconst (pc' := 106) X27.here hx (v := (1 : Int32)) (hb hby own_d5_105) rfl rfl ?_
            refine s_iadd (pc' := 107) X27.here hx (hb hby own_d5_106) rfl ?_
            refine s_iload (pc' := 109) X27.here hx (hb hby own_d5_107) rfl rfl ?_
            refine s_iand (pc' := 110) X27.here hx (hb hby own_d5_109) rfl ?_
            refine s_istore (pc' := 112) X27.here hx (l' := #[.val (.ref a), .val (.ref t), .val (.int f1), .val (.int (f1 + n1)), .val (.int f2), .val (.int (f2 + n2)), .val (.int hq), .val (.int (63 : Int32)), .val (.int ((sp + (1 : Int32)) &&& (63 : Int32))), .val (.int nu)]) (hb hby own_d5_110) rfl rfl ?_
            refine s_goto (pc' := 35) X27.here hx (hb hby own_d5_112) (by decide) (by decide) ?_
            exact ih T27 _ ((sp + (1 : Int32)) &&& (63 : Int32)) (.val (.int nu)) X27 eh27 N27 (⟨Or.inr ⟨_, rfl⟩, j + 1, own_jS hjJ, own_nx hsj, fun j' h i' k' q1 q2 => by
                by_cases e' : j' = j
                · rw [e', nmE]
                  intro q3
                  have q4 : i' = i := own_ii ki q2 (Value.int.inj q3)
                  rw [q4, ie] at q1
                  exact absurd (hrr.mpr (by rw [Option.some.inj q1]; exact ⟨rfl, rfl⟩)) (by rw [hrz]; decide)
                · exact hno j' (own_ltS h e') i' k' q1 q2⟩)
          · refine s_ifNo (pc' := 94) X27.here hx (hb hby own_d5_91) ((if0 _ _).trans (feq hrz).1) rfl ?_
            refine s_aloadN (pc' := 95) X27.here hx (hb hby own_d5_94) rfl rfl rfl ?_
            refine s_iload (pc' := 97) X27.here hx (hb hby own_d5_95) rfl rfl ?_
            have heq := hrr.mp (rr01.resolve_left hrz)
            have rn : res = nu := own_hit I (q := (own_A tb f1.toNatClampNeg n1.toNatClampNeg, own_A tb f2.toNatClampNeg n2.toNatClampNeg)) (i := i) (by rw [ie, ← heq.1, ← heq.2]) nuI Hr
            refine s_putF (pc' := 100) (ty := .int) X27 hx hZ hown (host := "") (Or.inl (hw _ (List.mem_of_getElem? (i := 32) rfl))) Via.refl eh27 F_rec E_a (Or.inl (hw _ (List.mem_of_getElem? (i := 33) rfl))) (hw _ (List.mem_of_getElem? (i := 7) rfl)) (by decide) rfl rfl (hb hby own_d5_97) rfl fun T28 hp28 X28 e28 W28 => ?_
            have N28 := Fr.snoc X28 N27 g_a
            have fq29 := F_slots.other W28 (Or.inr (slot_ne (Or.inl (hw _ (List.mem_of_getElem? (i := 16) rfl))) (Or.inl (hw _ (List.mem_of_getElem? (i := 33) rfl))) (by decide) (t := (.array .int)) (t' := .int) (by decide) (by decide)))
            have fq30 := F_bits.other W28 (Or.inr (slot_ne (Or.inl (hw _ (List.mem_of_getElem? (i := 18) rfl))) (Or.inl (hw _ (List.mem_of_getElem? (i := 33) rfl))) (by decide) (t := .int) (t' := .int) (by decide) (by decide)))
            have fq31 := V_sa.other W28 ne1
            have fq32 := E_a.wr W28
            have fq33 := F_keys.other W28 (Or.inr (slot_ne (Or.inl (hw _ (List.mem_of_getElem? (i := 22) rfl))) (Or.inl (hw _ (List.mem_of_getElem? (i := 33) rfl))) (by decide) (t := (.array .int)) (t' := .int) (by decide) (by decide)))
            have fq34 := F_kb.other W28 (Or.inr (slot_ne (Or.inl (hw _ (List.mem_of_getElem? (i := 20) rfl))) (Or.inl (hw _ (List.mem_of_getElem? (i := 33) rfl))) (by decide) (t := (.array .byte)) (t' := .int) (by decide) (by decide)))
            have fq35 := V_ka.other W28 ne2
            have fq36 := V_kb.other W28 ne3
            have fq37 := V_t.other W28 ne4
            have fq38 := F_size.other W28 (Or.inr (slot_ne (Or.inl (hw _ (List.mem_of_getElem? (i := 35) rfl))) (Or.inl (hw _ (List.mem_of_getElem? (i := 33) rfl))) (by decide) (t := .int) (t' := .int) (by decide) (by decide)))
            have fq39 := F_rec.same W28
            have Z40 : n0 ≤ hp28.size := Nat.le_trans Z0 (Keep.of_wr W28).1
            have K41 : Keep h0 hp28 [a] := Kr0.wr W28 (Or.inl (List.mem_of_getElem? (i := 0) rfl))
            refine s_iload (pc' := 102) X28.here hx (hb hby own_d5_100) rfl rfl ?_
            obtain ⟨fs, hr, hrun, hended, hW, hsame⟩ := X28.leave (v := some (.int nu)) (fun h => by rw [Bd.returns] at h; cases h)
            refine ⟨_, _, retOut X28 hx Bd.returns rfl (Or.inl ⟨rfl, Or.inl rfl, _, rfl⟩) (hb hby own_d5_102) hr, hrun, hended, _, _, rfl, ?_, ⟨_, rfl⟩, hW, hsame.mono (by decide) (by decide)⟩
            show own_se_Q Z a t k tb f1 n1 f2 n2 sa ks S es b ka kb kka kkb K B kt sz rc res h0 n0 _ T28.heap _
            rw [e28]
            exact ⟨nu, by rw [rn], N28, K41, fq29, fq30, fq33, fq34, fq38, fq39, Or.inr ⟨rn.symm, rn ▸ nuA.2.1⟩⟩
        · refine s_icmpYes (pc' := 103) X26.here hx (hb hby own_d5_75) (feq hhv).2 (by decide) (by decide) ?_
          refine s_iload (pc' := 105) X26.here hx (hb hby own_d5_103) rfl rfl ?_
          refine s_iconst (pc' := 106) X26.here hx (v := (1 : Int32)) (hb hby own_d5_105) rfl rfl ?_
          refine s_iadd (pc' := 107) X26.here hx (hb hby own_d5_106) rfl ?_
          refine s_iload (pc' := 109) X26.here hx (hb hby own_d5_107) rfl rfl ?_
          refine s_iand (pc' := 110) X26.here hx (hb hby own_d5_109) rfl ?_
          refine s_istore (pc' := 112) X26.here hx (l' := #[.val (.ref a), .val (.ref t), .val (.int f1), .val (.int (f1 + n1)), .val (.int f2), .val (.int (f2 + n2)), .val (.int hq), .val (.int (63 : Int32)), .val (.int ((sp + (1 : Int32)) &&& (63 : Int32))), .val (.int nu)]) (hb hby own_d5_110) rfl rfl ?_
          refine s_goto (pc' := 35) X26.here hx (hb hby own_d5_112) (by decide) (by decide) ?_
          exact ih T26 _ ((sp + (1 : Int32)) &&& (63 : Int32)) (.val (.int nu)) X26 e26 NX (⟨Or.inr ⟨_, rfl⟩, j + 1, own_jS hjJ, own_nx hsj, fun j' h i' k' q1 q2 => by
              by_cases e' : j' = j
              · rw [e', nmE]
                intro q3
                have q4 : i' = i := own_ii ki q2 (Value.int.inj q3)
                rw [q4, ie] at q1
                exact hhv (by rw [he, Option.some.inj q1, hhq])
              · exact hno j' (own_ltS h e') i' k' q1 q2⟩)
theorem own_rc1 {rc : Int32} (h0 : 0 ≤ rc.toInt) (h1 : rc.toInt ≤ 3) : ¬ (rc + (1 : Int32)) < rc ∧ (rc + (1 : Int32)).toInt = rc.toInt + 1 ∧ (rc + (1 : Int32)) < ((rc + (1 : Int32)) + (1 : Int32)) := by
  have one : (1 : Int32).toInt = 1 := by decide
  have a := own_add1 (f := rc) (k := (1 : Int32)) h0 (by omega) (by decide) (by decide)
  have b := own_add1 (f := rc + (1 : Int32)) (k := (1 : Int32)) (by omega) (by omega) (by decide) (by decide)
  exact ⟨own_nlt_ (by omega), by omega, own_lt_ (by omega)⟩
theorem own_at {es : List own_K} {sz i : Int32} (hs : sz.toInt = es.length) (hf : es.length ≤ 3) (h0 : 0 ≤ i.toInt) (h : i < sz) : ∃ (n : Nat) (e : own_K), es[n]? = some e ∧ i.toInt = (n : Int) ∧ i.toInt ≤ 2 := by
  rw [Int32.lt_iff_toInt_lt] at h
  have hl : i.toInt.toNat < es.length := by omega
  exact ⟨i.toInt.toNat, es[i.toInt.toNat], List.getElem?_eq_getElem hl, by omega, by omega⟩
theorem own_d4_0 : decode prog_20_method_6_code 0 = .ok (.aload_n 0, 1) := by decide +kernel
theorem own_d4_1 : decode prog_20_method_6_code 1 = .ok (.getfield 45, 3) := by decide +kernel
theorem own_d4_4 : decode prog_20_method_6_code 4 = .ok (.istore 6, 2) := by decide +kernel
theorem own_d4_6 : decode prog_20_method_6_code 6 = .ok (.iload 6, 2) := by decide +kernel
theorem own_d4_8 : decode prog_20_method_6_code 8 = .ok (.aload_n 0, 1) := by decide +kernel
theorem own_d4_9 : decode prog_20_method_6_code 9 = .ok (.getfield 45, 3) := by decide +kernel
theorem own_d4_12 : decode prog_20_method_6_code 12 = .ok (.iconst 1, 1) := by decide +kernel
theorem own_d4_13 : decode prog_20_method_6_code 13 = .ok (.iadd, 1) := by decide +kernel
theorem own_d4_14 : decode prog_20_method_6_code 14 = .ok (.if_icmp .gt 43, 3) := by decide +kernel
theorem own_d4_17 : decode prog_20_method_6_code 17 = .ok (.iload 6, 2) := by decide +kernel
theorem own_d4_19 : decode prog_20_method_6_code 19 = .ok (.aload_n 0, 1) := by decide +kernel
theorem own_d4_20 : decode prog_20_method_6_code 20 = .ok (.getfield 28, 3) := by decide +kernel
theorem own_d4_23 : decode prog_20_method_6_code 23 = .ok (.if_icmp .ge 34, 3) := by decide +kernel
theorem own_d4_57 : decode prog_20_method_6_code 57 = .ok (.aload_n 0, 1) := by decide +kernel
theorem own_d4_58 : decode prog_20_method_6_code 58 = .ok (.aload_n 1, 1) := by decide +kernel
theorem own_d4_59 : decode prog_20_method_6_code 59 = .ok (.iload_n 2, 1) := by decide +kernel
theorem own_d4_60 : decode prog_20_method_6_code 60 = .ok (.iload_n 3, 1) := by decide +kernel
theorem own_d4_61 : decode prog_20_method_6_code 61 = .ok (.iload 4, 2) := by decide +kernel
theorem own_d4_63 : decode prog_20_method_6_code 63 = .ok (.iload 5, 2) := by decide +kernel
theorem own_d4_65 : decode prog_20_method_6_code 65 = .ok (.invokevirtual 52, 3) := by decide +kernel
theorem own_pd4 : parseMethodDescriptor "([BIIII)I" = some ⟨[(.array .byte), .int, .int, .int, .int], some .int⟩ := by decide +kernel
theorem own_d4_68 : decode prog_20_method_6_code 68 = .ok (.ireturn, 1) := by decide +kernel
theorem own_d4_26 : decode prog_20_method_6_code 26 = .ok (.aload_n 0, 1) := by decide +kernel
theorem own_d4_27 : decode prog_20_method_6_code 27 = .ok (.iload 6, 2) := by decide +kernel
theorem own_d4_29 : decode prog_20_method_6_code 29 = .ok (.aload_n 1, 1) := by decide +kernel
theorem own_d4_30 : decode prog_20_method_6_code 30 = .ok (.iload_n 2, 1) := by decide +kernel
theorem own_d4_31 : decode prog_20_method_6_code 31 = .ok (.iload_n 3, 1) := by decide +kernel
theorem own_d4_32 : decode prog_20_method_6_code 32 = .ok (.iload 4, 2) := by decide +kernel
theorem own_d4_34 : decode prog_20_method_6_code 34 = .ok (.iload 5, 2) := by decide +kernel
theorem own_d4_36 : decode prog_20_method_6_code 36 = .ok (.invokevirtual 48, 3) := by decide +kernel
theorem own_d4_39 : decode prog_20_method_6_code 39 = .ok (.ifCond .eq 12, 3) := by decide +kernel
theorem own_d4_42 : decode prog_20_method_6_code 42 = .ok (.aload_n 0, 1) := by decide +kernel
theorem own_d4_43 : decode prog_20_method_6_code 43 = .ok (.iload 6, 2) := by decide +kernel
theorem own_d4_45 : decode prog_20_method_6_code 45 = .ok (.putfield 45, 3) := by decide +kernel
theorem own_d4_48 : decode prog_20_method_6_code 48 = .ok (.iload 6, 2) := by decide +kernel
theorem own_d4_50 : decode prog_20_method_6_code 50 = .ok (.ireturn, 1) := by decide +kernel
theorem own_d4_51 : decode prog_20_method_6_code 51 = .ok (.iinc 6 1, 3) := by decide +kernel
theorem own_d4_54 : decode prog_20_method_6_code 54 = .ok (.goto (-48), 3) := by decide +kernel
theorem own_no_ef (m : MethodId) (a : Addr) (t : Addr) (k : ClassId) (tb : List Value) (f1 : Int32) (n1 : Int32) (f2 : Int32) (n2 : Int32) (sa : Addr) (ks : ClassId) (S : List Value) (es : List own_K) (b : Nat) (ka : Addr) (kb : Addr) (kka : ClassId) (kkb : ClassId) (K : List Value) (B : List Value) (kt : Int32) (sz : Int32) (rc : Int32) (res : Int32) : entryFrame m #[(.ref a), (.ref t), (.int f1), (.int (f1 + n1)), (.int f2), (.int (f2 + n2))] 7 = mkF m 0 #[.val (.ref a), .val (.ref t), .val (.int f1), .val (.int (f1 + n1)), .val (.int f2), .val (.int (f2 + n2)), .unset] [] := by first | (simp [entryFrame, mkF, argsToLocals, Value.category]; done) | rfl
def own_no_Q (Z : State) (a : Addr) (t : Addr) (k : ClassId) (tb : List Value) (f1 : Int32) (n1 : Int32) (f2 : Int32) (n2 : Int32) (sa : Addr) (ks : ClassId) (S : List Value) (es : List own_K) (b : Nat) (ka : Addr) (kb : Addr) (kka : ClassId) (kkb : ClassId) (K : List Value) (B : List Value) (kt : Int32) (sz : Int32) (rc : Int32) (res : Int32) (h0 : Heap) (n0 : Nat) (v : Option Value) (h : Heap) (L : List Loc) : Prop := ∃ rc', v = some (.int res) ∧ Fr n0 L ∧ Keep h0 h [a] ∧ Fld Z h a "com/example/vestbook/vestbook/FirstCopies" "slots" "[I" (.ref sa) ∧ Fld Z h a "com/example/vestbook/vestbook/FirstCopies" "bits" "I" (.int (6 : Int32)) ∧ Fld Z h a "com/example/vestbook/vestbook/FirstCopies" "keys" "[I" (.ref ka) ∧ Fld Z h a "com/example/vestbook/vestbook/FirstCopies" "keyBytes" "[B" (.ref kb) ∧ Fld Z h a "com/example/vestbook/vestbook/FirstCopies" "size" "I" (.int sz) ∧ Fld Z h a "com/example/vestbook/vestbook/FirstCopies" "recent" "I" (.int rc') ∧ (rc' = rc ∨ (rc' = res ∧ 0 ≤ res.toInt))
set_option maxRecDepth 65536 in
set_option maxHeartbeats 40000000 in
theorem own_no (l : Launch) (Z : State) (a0 : Array Value) (hw : ∀ d ∈ tables_1, d.before a0 Z = true) (ws : List Jvm.Cond) (a : Addr) (t : Addr) (k : ClassId) (tb : List Value) (f1 : Int32) (n1 : Int32) (f2 : Int32) (n2 : Int32) (sa : Addr) (ks : ClassId) (S : List Value) (es : List own_K) (b : Nat) (ka : Addr) (kb : Addr) (kka : ClassId) (kkb : ClassId) (K : List Value) (B : List Value) (kt : Int32) (sz : Int32) (rc : Int32) (res : Int32) (h0 : Heap) (n0 : Nat) (Z0 : n0 ≤ h0.size) (F_slots : Fld Z h0 a "com/example/vestbook/vestbook/FirstCopies" "slots" "[I" (.ref sa)) (F_bits : Fld Z h0 a "com/example/vestbook/vestbook/FirstCopies" "bits" "I" (.int (6 : Int32))) (V_sa : Arv Z h0 sa ks .int (128 : Int32) S (.int (0 : Int32))) (E_a : Exa Z h0 a "com/example/vestbook/vestbook/FirstCopies") (F_keys : Fld Z h0 a "com/example/vestbook/vestbook/FirstCopies" "keys" "[I" (.ref ka)) (F_kb : Fld Z h0 a "com/example/vestbook/vestbook/FirstCopies" "keyBytes" "[B" (.ref kb)) (V_ka : Arv Z h0 ka kka .int (192 : Int32) K (.int (0 : Int32))) (V_kb : Arv Z h0 kb kkb .byte (64 : Int32) B (.int (0 : Int32))) (F_size : Fld Z h0 a "com/example/vestbook/vestbook/FirstCopies" "size" "I" (.int sz)) (F_rec : Fld Z h0 a "com/example/vestbook/vestbook/FirstCopies" "recent" "I" (.int rc)) (g_a : n0 ≤ a) (V_t : Arv Z h0 t k .byte (6 : Int32) tb (.int (0 : Int32))) (ne1 : sa ≠ a) (ne2 : ka ≠ a) (ne3 : kb ≠ a) (ne4 : t ≠ a) (I : own_I S es b) (kt60 : kt.toInt ≤ 60) (Tb : (∀ (i : Nat) (e : own_K) (nu : Int32), es[i]? = some e → nu.toInt = (i : Int) → own_En K B kt nu e.1 e.2)) (B1 : own_B f1 n1) (B2 : own_B f2 n2) (Hr : own_res es (own_A tb f1.toNatClampNeg n1.toNatClampNeg, own_A tb f2.toNatClampNeg n2.toNatClampNeg) res) (rc0 : 0 ≤ rc.toInt) (rc3 : rc.toInt ≤ 3) (hsz : sz.toInt = es.length) :
    MetFree l (⟨"com/example/vestbook/vestbook/FirstCopies", "numberOf", "([BIIII)I"⟩ : MethodName) (head1 (Jvm.Cond.code (⟨"com/example/vestbook/vestbook/FirstCopies", "numberOf", "([BIIII)I"⟩ : MethodName) prog_20_method_6_code 7 (some .int) :: ws) ({ frames := 2, cells := 0, slots := 0, locals := 44 } : Room)) (fun as_ U => as_ = #[(.ref a), (.ref t), (.int f1), (.int (f1 + n1)), (.int f2), (.int (f2 + n2))] ∧ Z.Warmed39 U.vm ∧ U.heap = h0) (fun _ _ _ _ _ => True) (fun _ U_ o_ V_ => ∃ v_ L_, o_ = .returned v_ ∧ own_no_Q Z a t k tb f1 n1 f2 n2 sa ks S es b ka kb kka kkb K B kt sz rc res h0 n0 v_ V_.heap L_ ∧ FrameEnd U_ o_ V_ L_ ({ frames := 2, cells := 0, slots := 0, locals := 44 } : Room).cells ({ frames := 2, cells := 0, slots := 0, locals := 44 } : Room).slots) := by
  refine MetFree.of_bodySF (plainFor_of_name own_pn1) hisR ?_
  intro p e s m args below meth c s₁ Bd hml0 hP hK
  obtain ⟨rfl, hZ, hh⟩ := hP
  have hx := Bd.exec
  have hby := Bd.bytes
  have hml : c.maxLocals = 7 := hml0
  have hown : s.vm.findClass "com/example/vestbook/vestbook/FirstCopies" = some m.cls := findClass_of_methodNamed Bd.named
  have hnm := (name_of_methodNamed Bd.named Bd.method).1
  have X0 : Stand p l e ({ frames := 2, cells := 0, slots := 0, locals := 44 } : Room) s m #[(.ref a), (.ref t), (.int f1), (.int (f1 + n1)), (.int f2), (.int (f2 + n2))] below meth c s₁ [] 0 0 := Stand.of_body Bd
  have e0 : s₁.heap = h0 := by rw [← hh, Bd.state]; rfl
  have N0 := Fr.nil n0
  refine own_begin (own_no_ef m a t k tb f1 n1 f2 n2 sa ks S es b ka kb kka kkb K B kt sz rc res) ?_
  show Ends p.tables e below (s₁.setTop (mkF m 0 #[.val (.ref a), .val (.ref t), .val (.int f1), .val (.int (f1 + n1)), .val (.int f2), .val (.int (f2 + n2)), .unset] [])) _
  have Kr0 : Keep h0 h0 [a] := Keep.refl h0 _
  have rc1 := own_rc1 rc0 rc3
  have rc10 : 0 ≤ (rc + (1 : Int32)).toInt := by rw [rc1.2.1]; omega
  refine s_aloadN (pc' := 1) X0.here hx (hb hby own_d4_0) rfl rfl rfl ?_
  refine s_getF (pc' := 4) X0 hx hZ hown (host := "") (Or.inl (hw _ (List.mem_of_getElem? (i := 32) rfl))) Via.refl e0 F_rec (hb hby own_d4_1) rfl fun T1 X1 e1 => ?_
  refine s_istore (pc' := 6) X1.here hx (l' := #[.val (.ref a), .val (.ref t), .val (.int f1), .val (.int (f1 + n1)), .val (.int f2), .val (.int (f2 + n2)), .val (.int rc)]) (hb hby own_d4_4) rfl rfl ?_
  refine s_iload (pc' := 8) X1.here hx (hb hby own_d4_6) rfl rfl ?_
  refine s_aloadN (pc' := 9) X1.here hx (hb hby own_d4_8) rfl rfl rfl ?_
  refine s_getF (pc' := 12) X1 hx hZ hown (host := "") (Or.inl (hw _ (List.mem_of_getElem? (i := 32) rfl))) Via.refl e1 F_rec (hb hby own_d4_9) rfl fun T2 X2 e2 => ?_
  refine s_iconst (pc' := 13) X2.here hx (v := (1 : Int32)) (hb hby own_d4_12) rfl rfl ?_
  refine s_iadd (pc' := 14) X2.here hx (hb hby own_d4_13) rfl ?_
  have hk3 : ¬ ((rc + (1 : Int32)) < rc) := rc1.1
  refine s_icmpNo (pc' := 17) X2.here hx (hb hby own_d4_14) (flt hk3).2.2.1 rfl ?_
  refine s_iload (pc' := 19) X2.here hx (hb hby own_d4_17) rfl rfl ?_
  refine s_aloadN (pc' := 20) X2.here hx (hb hby own_d4_19) rfl rfl rfl ?_
  refine s_getF (pc' := 23) X2 hx hZ hown (host := "") (Or.inl (hw _ (List.mem_of_getElem? (i := 34) rfl))) Via.refl e2 F_size (hb hby own_d4_20) rfl fun T4 X4 e4 => ?_
  by_cases hlta : rc < sz
  · refine s_icmpNo (pc' := 26) X4.here hx (hb hby own_d4_23) (tlt hlta).2.1 rfl ?_
    obtain ⟨na, ea_, iea, nia, ne2a⟩ := own_at hsz I.few rc0 hlta
    obtain ⟨rra, rr01a, hrra⟩ := own_pick (ea_.1 = own_A tb f1.toNatClampNeg n1.toNatClampNeg ∧ ea_.2 = own_A tb f2.toNatClampNeg n2.toNatClampNeg)
    refine s_aloadN (pc' := 27) X4.here hx (hb hby own_d4_26) rfl rfl rfl ?_
    refine s_iload (pc' := 29) X4.here hx (hb hby own_d4_27) rfl rfl ?_
    refine s_aloadN (pc' := 30) X4.here hx (hb hby own_d4_29) rfl rfl rfl ?_
    refine s_iloadN (pc' := 31) X4.here hx (hb hby own_d4_30) rfl rfl ?_
    refine s_iloadN (pc' := 32) X4.here hx (hb hby own_d4_31) rfl rfl ?_
    refine s_iload (pc' := 34) X4.here hx (hb hby own_d4_32) rfl rfl ?_
    refine s_iload (pc' := 36) X4.here hx (hb hby own_d4_34) rfl rfl ?_
    refine s_callP (y := (⟨"com/example/vestbook/vestbook/FirstCopies", "matches", "(I[BIIII)Z"⟩ : MethodName)) (zz := (⟨"com/example/vestbook/vestbook/FirstCopies", "numberOf", "([BIIII)I"⟩ : MethodName)) (pc' := 39) (W := 0) X4 hx hZ  rfl hown (hw _ (List.mem_of_getElem? (i := 75) rfl)) (hw _ (List.mem_of_getElem? (i := 77) rfl)) (hw _ (List.mem_of_getElem? (i := 8) rfl)) (hw _ (List.mem_of_getElem? (i := 78) rfl)) (hw _ (List.mem_of_getElem? (i := 30) rfl)) (hw _ (List.mem_of_getElem? (i := 76) rfl)) (by decide) e4 E_a (own_mt l Z a0 hw [] a rc t k tb f1 n1 f2 n2 ka kb kka kkb K B kt ea_.1 ea_.2 rra h0 n0 Z0 V_t F_keys F_kb V_ka V_kb rc0 ne2a kt60 (Tb na ea_ _ iea nia) B1 B2 rr01a hrra) (by rw [hml]; rfl) [(.int rc), (.ref t), (.int f1), (.int (f1 + n1)), (.int f2), (.int (f2 + n2))] [] rfl (lenOf own_pd3 rfl) rfl (Nat.le_of_eq rfl) (by decide) (by decide) (by decide) (by decide) rfl (hb hby own_d4_36) fun T13 v13 Lc13 X13 hQ13 => ?_
    obtain ⟨rfl, Nq13, eh13⟩ := hQ13
    have N13 := Fr.app N0 Nq13
    show Ends p.tables e below (T13.setTop (mkF m 39 #[.val (.ref a), .val (.ref t), .val (.int f1), .val (.int (f1 + n1)), .val (.int f2), .val (.int (f2 + n2)), .val (.int rc)] [(.int rra)])) _
    by_cases hrza : rra = (0 : Int32)
    · refine s_ifYes (pc' := 51) X13.here hx (hb hby own_d4_39) ((if0 _ _).trans (teq hrza).1) (by decide) (by decide) ?_
      refine s_iinc (pc' := 54) X13.here hx (v := (1 : Int32)) (l' := #[.val (.ref a), .val (.ref t), .val (.int f1), .val (.int (f1 + n1)), .val (.int f2), .val (.int (f2 + n2)), .val (.int (rc + (1 : Int32)))]) (hb hby own_d4_51) rfl rfl rfl rfl ?_
      refine s_goto (pc' := 6) X13.here hx (hb hby own_d4_54) (by decide) (by decide) ?_
      refine s_iload (pc' := 8) X13.here hx (hb hby own_d4_6) rfl rfl ?_
      refine s_aloadN (pc' := 9) X13.here hx (hb hby own_d4_8) rfl rfl rfl ?_
      refine s_getF (pc' := 12) X13 hx hZ hown (host := "") (Or.inl (hw _ (List.mem_of_getElem? (i := 32) rfl))) Via.refl eh13 F_rec (hb hby own_d4_9) rfl fun T28 X28 e28 => ?_
      refine s_iconst (pc' := 13) X28.here hx (v := (1 : Int32)) (hb hby own_d4_12) rfl rfl ?_
      refine s_iadd (pc' := 14) X28.here hx (hb hby own_d4_13) rfl ?_
      have hk29 : ¬ ((rc + (1 : Int32)) < (rc + (1 : Int32))) := Int32.lt_irrefl
      refine s_icmpNo (pc' := 17) X28.here hx (hb hby own_d4_14) (flt hk29).2.2.1 rfl ?_
      refine s_iload (pc' := 19) X28.here hx (hb hby own_d4_17) rfl rfl ?_
      refine s_aloadN (pc' := 20) X28.here hx (hb hby own_d4_19) rfl rfl rfl ?_
      refine s_getF (pc' := 23) X28 hx hZ hown (host := "") (Or.inl (hw _ (List.mem_of_getElem? (i := 34) rfl))) Via.refl e28 F_size (hb hby own_d4_20) rfl fun T30 X30 e30 => ?_
      by_cases hltb : (rc + (1 : Int32)) < sz
      · refine s_icmpNo (pc' := 26) X30.here hx (hb hby own_d4_23) (tlt hltb).2.1 rfl ?_
        obtain ⟨nb, eb_, ieb, nib, ne2b⟩ := own_at hsz I.few rc10 hltb
        obtain ⟨rrb, rr01b, hrrb⟩ := own_pick (eb_.1 = own_A tb f1.toNatClampNeg n1.toNatClampNeg ∧ eb_.2 = own_A tb f2.toNatClampNeg n2.toNatClampNeg)
        refine s_aloadN (pc' := 27) X30.here hx (hb hby own_d4_26) rfl rfl rfl ?_
        refine s_iload (pc' := 29) X30.here hx (hb hby own_d4_27) rfl rfl ?_
        refine s_aloadN (pc' := 30) X30.here hx (hb hby own_d4_29) rfl rfl rfl ?_
        refine s_iloadN (pc' := 31) X30.here hx (hb hby own_d4_30) rfl rfl ?_
        refine s_iloadN (pc' := 32) X30.here hx (hb hby own_d4_31) rfl rfl ?_
        refine s_iload (pc' := 34) X30.here hx (hb hby own_d4_32) rfl rfl ?_
        refine s_iload (pc' := 36) X30.here hx (hb hby own_d4_34) rfl rfl ?_
        refine s_callP (y := (⟨"com/example/vestbook/vestbook/FirstCopies", "matches", "(I[BIIII)Z"⟩ : MethodName)) (zz := (⟨"com/example/vestbook/vestbook/FirstCopies", "numberOf", "([BIIII)I"⟩ : MethodName)) (pc' := 39) (W := 0) X30 hx hZ  rfl hown (hw _ (List.mem_of_getElem? (i := 75) rfl)) (hw _ (List.mem_of_getElem? (i := 77) rfl)) (hw _ (List.mem_of_getElem? (i := 8) rfl)) (hw _ (List.mem_of_getElem? (i := 78) rfl)) (hw _ (List.mem_of_getElem? (i := 30) rfl)) (hw _ (List.mem_of_getElem? (i := 76) rfl)) (by decide) e30 E_a (own_mt l Z a0 hw [] a (rc + (1 : Int32)) t k tb f1 n1 f2 n2 ka kb kka kkb K B kt eb_.1 eb_.2 rrb h0 n0 Z0 V_t F_keys F_kb V_ka V_kb rc10 ne2b kt60 (Tb nb eb_ _ ieb nib) B1 B2 rr01b hrrb) (by rw [hml]; rfl) [(.int (rc + (1 : Int32))), (.ref t), (.int f1), (.int (f1 + n1)), (.int f2), (.int (f2 + n2))] [] rfl (lenOf own_pd3 rfl) rfl (Nat.le_of_eq rfl) (by decide) (by decide) (by decide) (by decide) rfl (hb hby own_d4_36) fun T39 v39 Lc39 X39 hQ39 => ?_
        obtain ⟨rfl, Nq39, eh39⟩ := hQ39
        have N39 := Fr.app N13 Nq39
        show Ends p.tables e below (T39.setTop (mkF m 39 #[.val (.ref a), .val (.ref t), .val (.int f1), .val (.int (f1 + n1)), .val (.int f2), .val (.int (f2 + n2)), .val (.int (rc + (1 : Int32)))] [(.int rrb)])) _
        by_cases hrzb : rrb = (0 : Int32)
        · refine s_ifYes (pc' := 51) X39.here hx (hb hby own_d4_39) ((if0 _ _).trans (teq hrzb).1) (by decide) (by decide) ?_
          refine s_iinc (pc' := 54) X39.here hx (v := (1 : Int32)) (l' := #[.val (.ref a), .val (.ref t), .val (.int f1), .val (.int (f1 + n1)), .val (.int f2), .val (.int (f2 + n2)), .val (.int ((rc + (1 : Int32)) + (1 : Int32)))]) (hb hby own_d4_51) rfl rfl rfl rfl ?_
          refine s_goto (pc' := 6) X39.here hx (hb hby own_d4_54) (by decide) (by decide) ?_
          refine s_iload (pc' := 8) X39.here hx (hb hby own_d4_6) rfl rfl ?_
          refine s_aloadN (pc' := 9) X39.here hx (hb hby own_d4_8) rfl rfl rfl ?_
          refine s_getF (pc' := 12) X39 hx hZ hown (host := "") (Or.inl (hw _ (List.mem_of_getElem? (i := 32) rfl))) Via.refl eh39 F_rec (hb hby own_d4_9) rfl fun T54 X54 e54 => ?_
          refine s_iconst (pc' := 13) X54.here hx (v := (1 : Int32)) (hb hby own_d4_12) rfl rfl ?_
          refine s_iadd (pc' := 14) X54.here hx (hb hby own_d4_13) rfl ?_
          have hk55 : (rc + (1 : Int32)) < ((rc + (1 : Int32)) + (1 : Int32)) := rc1.2.2
          refine s_icmpYes (pc' := 57) X54.here hx (hb hby own_d4_14) (tlt hk55).2.2.1 (by decide) (by decide) ?_
          refine s_aloadN (pc' := 58) X54.here hx (hb hby own_d4_57) rfl rfl rfl ?_
          refine s_aloadN (pc' := 59) X54.here hx (hb hby own_d4_58) rfl rfl rfl ?_
          refine s_iloadN (pc' := 60) X54.here hx (hb hby own_d4_59) rfl rfl ?_
          refine s_iloadN (pc' := 61) X54.here hx (hb hby own_d4_60) rfl rfl ?_
          refine s_iload (pc' := 63) X54.here hx (hb hby own_d4_61) rfl rfl ?_
          refine s_iload (pc' := 65) X54.here hx (hb hby own_d4_63) rfl rfl ?_
          refine s_callP (y := (⟨"com/example/vestbook/vestbook/FirstCopies", "search", "([BIIII)I"⟩ : MethodName)) (zz := (⟨"com/example/vestbook/vestbook/FirstCopies", "numberOf", "([BIIII)I"⟩ : MethodName)) (pc' := 68) (W := 0) X54 hx hZ  rfl hown (hw _ (List.mem_of_getElem? (i := 36) rfl)) (hw _ (List.mem_of_getElem? (i := 38) rfl)) (hw _ (List.mem_of_getElem? (i := 8) rfl)) (hw _ (List.mem_of_getElem? (i := 39) rfl)) (hw _ (List.mem_of_getElem? (i := 30) rfl)) (hw _ (List.mem_of_getElem? (i := 37) rfl)) (by decide) e54 E_a (own_se l Z a0 hw [] a t k tb f1 n1 f2 n2 sa ks S es b ka kb kka kkb K B kt sz rc res h0 n0 Z0 F_slots F_bits V_sa E_a F_keys F_kb V_ka V_kb F_size F_rec g_a V_t ne1 ne2 ne3 ne4 I kt60 Tb B1 B2 Hr) (by rw [hml]; rfl) [(.ref t), (.int f1), (.int (f1 + n1)), (.int f2), (.int (f2 + n2))] [] rfl (lenOf own_pd4 rfl) rfl (Nat.le_of_eq rfl) (by decide) (by decide) (by decide) (by decide) rfl (hb hby own_d4_65) fun T56 v56 Lc56 X56 hQ56 => ?_
          obtain ⟨rq, rfl, Nq56, Kq56, Q1, Q2, Q3, Q4, Q5, Q6, Q7⟩ := hQ56
          have N56 := Fr.app N39 Nq56
          have fq57 := V_sa.keep Kq56 (ninS ne1 nin0)
          have fq58 := E_a.keep Kq56
          have fq59 := V_ka.keep Kq56 (ninS ne2 nin0)
          have fq60 := V_kb.keep Kq56 (ninS ne3 nin0)
          have fq61 := V_t.keep Kq56 (ninS ne4 nin0)
          have Z62 : n0 ≤ T56.heap.size := Nat.le_trans Z0 Kq56.1
          have K63 : Keep h0 T56.heap [a] := Kr0.trans Kq56 (allS (Or.inl (List.mem_of_getElem? (i := 0) rfl)) all0)
          show Ends p.tables e below (T56.setTop (mkF m 68 #[.val (.ref a), .val (.ref t), .val (.int f1), .val (.int (f1 + n1)), .val (.int f2), .val (.int (f2 + n2)), .val (.int ((rc + (1 : Int32)) + (1 : Int32)))] [(.int res)])) _
          obtain ⟨fs, hr, hrun, hended, hW, hsame⟩ := X56.leave (v := some (.int res)) (fun h => by rw [Bd.returns] at h; cases h)
          refine ⟨_, _, retOut X56 hx Bd.returns rfl (Or.inl ⟨rfl, Or.inl rfl, _, rfl⟩) (hb hby own_d4_68) hr, hrun, hended, _, _, rfl, ?_, ⟨_, rfl⟩, hW, hsame.mono (by decide) (by decide)⟩
          show own_no_Q Z a t k tb f1 n1 f2 n2 sa ks S es b ka kb kka kkb K B kt sz rc res h0 n0 _ T56.heap _
          exact ⟨rq, rfl, N56, K63, Q1, Q2, Q3, Q4, Q5, Q6, Q7⟩
        · refine s_ifNo (pc' := 42) X39.here hx (hb hby own_d4_39) ((if0 _ _).trans (feq hrzb).1) rfl ?_
          refine s_aloadN (pc' := 43) X39.here hx (hb hby own_d4_42) rfl rfl rfl ?_
          refine s_iload (pc' := 45) X39.here hx (hb hby own_d4_43) rfl rfl ?_
          have heq := hrrb.mp (rr01b.resolve_left hrzb)
          have rn : res = (rc + (1 : Int32)) := own_hit I (q := (own_A tb f1.toNatClampNeg n1.toNatClampNeg, own_A tb f2.toNatClampNeg n2.toNatClampNeg)) (i := nb) (by rw [ieb, ← heq.1, ← heq.2]) nib Hr
          refine s_putF (pc' := 48) (ty := .int) X39 hx hZ hown (host := "") (Or.inl (hw _ (List.mem_of_getElem? (i := 32) rfl))) Via.refl eh39 F_rec E_a (Or.inl (hw _ (List.mem_of_getElem? (i := 33) rfl))) (hw _ (List.mem_of_getElem? (i := 7) rfl)) (by decide) rfl rfl (hb hby own_d4_45) rfl fun T40 hp40 X40 e40 W40 => ?_
          have N40 := Fr.snoc X40 N39 g_a
          have fq41 := F_slots.other W40 (Or.inr (slot_ne (Or.inl (hw _ (List.mem_of_getElem? (i := 16) rfl))) (Or.inl (hw _ (List.mem_of_getElem? (i := 33) rfl))) (by decide) (t := (.array .int)) (t' := .int) (by decide) (by decide)))
          have fq42 := F_bits.other W40 (Or.inr (slot_ne (Or.inl (hw _ (List.mem_of_getElem? (i := 18) rfl))) (Or.inl (hw _ (List.mem_of_getElem? (i := 33) rfl))) (by decide) (t := .int) (t' := .int) (by decide) (by decide)))
          have fq43 := V_sa.other W40 ne1
          have fq44 := E_a.wr W40
          have fq45 := F_keys.other W40 (Or.inr (slot_ne (Or.inl (hw _ (List.mem_of_getElem? (i := 22) rfl))) (Or.inl (hw _ (List.mem_of_getElem? (i := 33) rfl))) (by decide) (t := (.array .int)) (t' := .int) (by decide) (by decide)))
          have fq46 := F_kb.other W40 (Or.inr (slot_ne (Or.inl (hw _ (List.mem_of_getElem? (i := 20) rfl))) (Or.inl (hw _ (List.mem_of_getElem? (i := 33) rfl))) (by decide) (t := (.array .byte)) (t' := .int) (by decide) (by decide)))
          have fq47 := V_ka.other W40 ne2
          have fq48 := V_kb.other W40 ne3
          have fq49 := V_t.other W40 ne4
          have fq50 := F_size.other W40 (Or.inr (slot_ne (Or.inl (hw _ (List.mem_of_getElem? (i := 35) rfl))) (Or.inl (hw _ (List.mem_of_getElem? (i := 33) rfl))) (by decide) (t := .int) (t' := .int) (by decide) (by decide)))
          have fq51 := F_rec.same W40
          have Z52 : n0 ≤ hp40.size := Nat.le_trans Z0 (Keep.of_wr W40).1
          have K53 : Keep h0 hp40 [a] := Kr0.wr W40 (Or.inl (List.mem_of_getElem? (i := 0) rfl))
          refine s_iload (pc' := 50) X40.here hx (hb hby own_d4_48) rfl rfl ?_
          obtain ⟨fs, hr, hrun, hended, hW, hsame⟩ := X40.leave (v := some (.int (rc + (1 : Int32)))) (fun h => by rw [Bd.returns] at h; cases h)
          refine ⟨_, _, retOut X40 hx Bd.returns rfl (Or.inl ⟨rfl, Or.inl rfl, _, rfl⟩) (hb hby own_d4_50) hr, hrun, hended, _, _, rfl, ?_, ⟨_, rfl⟩, hW, hsame.mono (by decide) (by decide)⟩
          show own_no_Q Z a t k tb f1 n1 f2 n2 sa ks S es b ka kb kka kkb K B kt sz rc res h0 n0 _ T40.heap _
          rw [e40]
          exact ⟨(rc + (1 : Int32)), by rw [rn], N40, K53, fq41, fq42, fq45, fq46, fq50, fq51, Or.inr ⟨rn.symm, rn ▸ rc10⟩⟩
      · refine s_icmpYes (pc' := 57) X30.here hx (hb hby own_d4_23) (flt hltb).2.1 (by decide) (by decide) ?_
        refine s_aloadN (pc' := 58) X30.here hx (hb hby own_d4_57) rfl rfl rfl ?_
        refine s_aloadN (pc' := 59) X30.here hx (hb hby own_d4_58) rfl rfl rfl ?_
        refine s_iloadN (pc' := 60) X30.here hx (hb hby own_d4_59) rfl rfl ?_
        refine s_iloadN (pc' := 61) X30.here hx (hb hby own_d4_60) rfl rfl ?_
        refine s_iload (pc' := 63) X30.here hx (hb hby own_d4_61) rfl rfl ?_
        refine s_iload (pc' := 65) X30.here hx (hb hby own_d4_63) rfl rfl ?_
        refine s_callP (y := (⟨"com/example/vestbook/vestbook/FirstCopies", "search", "([BIIII)I"⟩ : MethodName)) (zz := (⟨"com/example/vestbook/vestbook/FirstCopies", "numberOf", "([BIIII)I"⟩ : MethodName)) (pc' := 68) (W := 0) X30 hx hZ  rfl hown (hw _ (List.mem_of_getElem? (i := 36) rfl)) (hw _ (List.mem_of_getElem? (i := 38) rfl)) (hw _ (List.mem_of_getElem? (i := 8) rfl)) (hw _ (List.mem_of_getElem? (i := 39) rfl)) (hw _ (List.mem_of_getElem? (i := 30) rfl)) (hw _ (List.mem_of_getElem? (i := 37) rfl)) (by decide) e30 E_a (own_se l Z a0 hw [] a t k tb f1 n1 f2 n2 sa ks S es b ka kb kka kkb K B kt sz rc res h0 n0 Z0 F_slots F_bits V_sa E_a F_keys F_kb V_ka V_kb F_size F_rec g_a V_t ne1 ne2 ne3 ne4 I kt60 Tb B1 B2 Hr) (by rw [hml]; rfl) [(.ref t), (.int f1), (.int (f1 + n1)), (.int f2), (.int (f2 + n2))] [] rfl (lenOf own_pd4 rfl) rfl (Nat.le_of_eq rfl) (by decide) (by decide) (by decide) (by decide) rfl (hb hby own_d4_65) fun T31 v31 Lc31 X31 hQ31 => ?_
        obtain ⟨rq, rfl, Nq31, Kq31, Q1, Q2, Q3, Q4, Q5, Q6, Q7⟩ := hQ31
        have N31 := Fr.app N13 Nq31
        have fq32 := V_sa.keep Kq31 (ninS ne1 nin0)
        have fq33 := E_a.keep Kq31
        have fq34 := V_ka.keep Kq31 (ninS ne2 nin0)
        have fq35 := V_kb.keep Kq31 (ninS ne3 nin0)
        have fq36 := V_t.keep Kq31 (ninS ne4 nin0)
        have Z37 : n0 ≤ T31.heap.size := Nat.le_trans Z0 Kq31.1
        have K38 : Keep h0 T31.heap [a] := Kr0.trans Kq31 (allS (Or.inl (List.mem_of_getElem? (i := 0) rfl)) all0)
        show Ends p.tables e below (T31.setTop (mkF m 68 #[.val (.ref a), .val (.ref t), .val (.int f1), .val (.int (f1 + n1)), .val (.int f2), .val (.int (f2 + n2)), .val (.int (rc + (1 : Int32)))] [(.int res)])) _
        obtain ⟨fs, hr, hrun, hended, hW, hsame⟩ := X31.leave (v := some (.int res)) (fun h => by rw [Bd.returns] at h; cases h)
        refine ⟨_, _, retOut X31 hx Bd.returns rfl (Or.inl ⟨rfl, Or.inl rfl, _, rfl⟩) (hb hby own_d4_68) hr, hrun, hended, _, _, rfl, ?_, ⟨_, rfl⟩, hW, hsame.mono (by decide) (by decide)⟩
        show own_no_Q Z a t k tb f1 n1 f2 n2 sa ks S es b ka kb kka kkb K B kt sz rc res h0 n0 _ T31.heap _
        exact ⟨rq, rfl, N31, K38, Q1, Q2, Q3, Q4, Q5, Q6, Q7⟩
    · refine s_ifNo (pc' := 42) X13.here hx (hb hby own_d4_39) ((if0 _ _).trans (feq hrza).1) rfl ?_
      refine s_aloadN (pc' := 43) X13.here hx (hb hby own_d4_42) rfl rfl rfl ?_
      refine s_iload (pc' := 45) X13.here hx (hb hby own_d4_43) rfl rfl ?_
      have heq := hrra.mp (rr01a.resolve_left hrza)
      have rn : res = rc := own_hit I (q := (own_A tb f1.toNatClampNeg n1.toNatClampNeg, own_A tb f2.toNatClampNeg n2.toNatClampNeg)) (i := na) (by rw [iea, ← heq.1, ← heq.2]) nia Hr
      refine s_putF (pc' := 48) (ty := .int) X13 hx hZ hown (host := "") (Or.inl (hw _ (List.mem_of_getElem? (i := 32) rfl))) Via.refl eh13 F_rec E_a (Or.inl (hw _ (List.mem_of_getElem? (i := 33) rfl))) (hw _ (List.mem_of_getElem? (i := 7) rfl)) (by decide) rfl rfl (hb hby own_d4_45) rfl fun T14 hp14 X14 e14 W14 => ?_
      have N14 := Fr.snoc X14 N13 g_a
      have fq15 := F_slots.other W14 (Or.inr (slot_ne (Or.inl (hw _ (List.mem_of_getElem? (i := 16) rfl))) (Or.inl (hw _ (List.mem_of_getElem? (i := 33) rfl))) (by decide) (t := (.array .int)) (t' := .int) (by decide) (by decide)))
      have fq16 := F_bits.other W14 (Or.inr (slot_ne (Or.inl (hw _ (List.mem_of_getElem? (i := 18) rfl))) (Or.inl (hw _ (List.mem_of_getElem? (i := 33) rfl))) (by decide) (t := .int) (t' := .int) (by decide) (by decide)))
      have fq17 := V_sa.other W14 ne1
      have fq18 := E_a.wr W14
      have fq19 := F_keys.other W14 (Or.inr (slot_ne (Or.inl (hw _ (List.mem_of_getElem? (i := 22) rfl))) (Or.inl (hw _ (List.mem_of_getElem? (i := 33) rfl))) (by decide) (t := (.array .int)) (t' := .int) (by decide) (by decide)))
      have fq20 := F_kb.other W14 (Or.inr (slot_ne (Or.inl (hw _ (List.mem_of_getElem? (i := 20) rfl))) (Or.inl (hw _ (List.mem_of_getElem? (i := 33) rfl))) (by decide) (t := (.array .byte)) (t' := .int) (by decide) (by decide)))
      have fq21 := V_ka.other W14 ne2
      have fq22 := V_kb.other W14 ne3
      have fq23 := V_t.other W14 ne4
      have fq24 := F_size.other W14 (Or.inr (slot_ne (Or.inl (hw _ (List.mem_of_getElem? (i := 35) rfl))) (Or.inl (hw _ (List.mem_of_getElem? (i := 33) rfl))) (by decide) (t := .int) (t' := .int) (by decide) (by decide)))
      have fq25 := F_rec.same W14
      have Z26 : n0 ≤ hp14.size := Nat.le_trans Z0 (Keep.of_wr W14).1
      have K27 : Keep h0 hp14 [a] := Kr0.wr W14 (Or.inl (List.mem_of_getElem? (i := 0) rfl))
      refine s_iload (pc' := 50) X14.here hx (hb hby own_d4_48) rfl rfl ?_
      obtain ⟨fs, hr, hrun, hended, hW, hsame⟩ := X14.leave (v := some (.int rc)) (fun h => by rw [Bd.returns] at h; cases h)
      refine ⟨_, _, retOut X14 hx Bd.returns rfl (Or.inl ⟨rfl, Or.inl rfl, _, rfl⟩) (hb hby own_d4_50) hr, hrun, hended, _, _, rfl, ?_, ⟨_, rfl⟩, hW, hsame.mono (by decide) (by decide)⟩
      show own_no_Q Z a t k tb f1 n1 f2 n2 sa ks S es b ka kb kka kkb K B kt sz rc res h0 n0 _ T14.heap _
      rw [e14]
      exact ⟨rc, by rw [rn], N14, K27, fq15, fq16, fq19, fq20, fq24, fq25, Or.inr ⟨rn.symm, rn ▸ rc0⟩⟩
  · refine s_icmpYes (pc' := 57) X4.here hx (hb hby own_d4_23) (flt hlta).2.1 (by decide) (by decide) ?_
    refine s_aloadN (pc' := 58) X4.here hx (hb hby own_d4_57) rfl rfl rfl ?_
    refine s_aloadN (pc' := 59) X4.here hx (hb hby own_d4_58) rfl rfl rfl ?_
    refine s_iloadN (pc' := 60) X4.here hx (hb hby own_d4_59) rfl rfl ?_
    refine s_iloadN (pc' := 61) X4.here hx (hb hby own_d4_60) rfl rfl ?_
    refine s_iload (pc' := 63) X4.here hx (hb hby own_d4_61) rfl rfl ?_
    refine s_iload (pc' := 65) X4.here hx (hb hby own_d4_63) rfl rfl ?_
    refine s_callP (y := (⟨"com/example/vestbook/vestbook/FirstCopies", "search", "([BIIII)I"⟩ : MethodName)) (zz := (⟨"com/example/vestbook/vestbook/FirstCopies", "numberOf", "([BIIII)I"⟩ : MethodName)) (pc' := 68) (W := 0) X4 hx hZ  rfl hown (hw _ (List.mem_of_getElem? (i := 36) rfl)) (hw _ (List.mem_of_getElem? (i := 38) rfl)) (hw _ (List.mem_of_getElem? (i := 8) rfl)) (hw _ (List.mem_of_getElem? (i := 39) rfl)) (hw _ (List.mem_of_getElem? (i := 30) rfl)) (hw _ (List.mem_of_getElem? (i := 37) rfl)) (by decide) e4 E_a (own_se l Z a0 hw [] a t k tb f1 n1 f2 n2 sa ks S es b ka kb kka kkb K B kt sz rc res h0 n0 Z0 F_slots F_bits V_sa E_a F_keys F_kb V_ka V_kb F_size F_rec g_a V_t ne1 ne2 ne3 ne4 I kt60 Tb B1 B2 Hr) (by rw [hml]; rfl) [(.ref t), (.int f1), (.int (f1 + n1)), (.int f2), (.int (f2 + n2))] [] rfl (lenOf own_pd4 rfl) rfl (Nat.le_of_eq rfl) (by decide) (by decide) (by decide) (by decide) rfl (hb hby own_d4_65) fun T5 v5 Lc5 X5 hQ5 => ?_
    obtain ⟨rq, rfl, Nq5, Kq5, Q1, Q2, Q3, Q4, Q5, Q6, Q7⟩ := hQ5
    have N5 := Fr.app N0 Nq5
    have fq6 := V_sa.keep Kq5 (ninS ne1 nin0)
    have fq7 := E_a.keep Kq5
    have fq8 := V_ka.keep Kq5 (ninS ne2 nin0)
    have fq9 := V_kb.keep Kq5 (ninS ne3 nin0)
    have fq10 := V_t.keep Kq5 (ninS ne4 nin0)
    have Z11 : n0 ≤ T5.heap.size := Nat.le_trans Z0 Kq5.1
    have K12 : Keep h0 T5.heap [a] := Kr0.trans Kq5 (allS (Or.inl (List.mem_of_getElem? (i := 0) rfl)) all0)
    show Ends p.tables e below (T5.setTop (mkF m 68 #[.val (.ref a), .val (.ref t), .val (.int f1), .val (.int (f1 + n1)), .val (.int f2), .val (.int (f2 + n2)), .val (.int rc)] [(.int res)])) _
    obtain ⟨fs, hr, hrun, hended, hW, hsame⟩ := X5.leave (v := some (.int res)) (fun h => by rw [Bd.returns] at h; cases h)
    refine ⟨_, _, retOut X5 hx Bd.returns rfl (Or.inl ⟨rfl, Or.inl rfl, _, rfl⟩) (hb hby own_d4_68) hr, hrun, hended, _, _, rfl, ?_, ⟨_, rfl⟩, hW, hsame.mono (by decide) (by decide)⟩
    show own_no_Q Z a t k tb f1 n1 f2 n2 sa ks S es b ka kb kka kkb K B kt sz rc res h0 n0 _ T5.heap _
    exact ⟨rq, rfl, N5, K12, Q1, Q2, Q3, Q4, Q5, Q6, Q7⟩
theorem own_getset (l : List Value) (i k : Nat) (v d : Value) (h : i < l.length) : (l.set i v).getD k d = if k = i then v else l.getD k d := by
  rw [List.getD_eq_getElem?_getD, List.getD_eq_getElem?_getD, List.getElem?_set]
  by_cases e : i = k
  · subst e
    simp [h]
  · rw [if_neg e, if_neg (fun q => e q.symm)]
theorem own_nm' {S : List Value} {P : Nat} {x m : Value} (hl : S.length = 128) (hP : P < 64) (p : Nat) : own_nm ((S.set (2 * P) x).set (2 * P + 1) m) p = if p = P then m else own_nm S p := by
  unfold own_nm
  rw [own_getset _ _ _ _ _ (by rw [List.length_set, hl]; omega), own_getset _ _ _ _ _ (by rw [hl]; omega)]
  by_cases e : p = P
  · rw [if_pos (by omega), if_pos e]
  · rw [if_neg (by omega), if_neg (by omega), if_neg e]
theorem own_hh' {S : List Value} {P : Nat} {x m : Value} (hl : S.length = 128) (hP : P < 64) (p : Nat) : own_hh ((S.set (2 * P) x).set (2 * P + 1) m) p = if p = P then x else own_hh S p := by
  unfold own_hh
  rw [own_getset _ _ _ _ _ (by rw [List.length_set, hl]; omega), own_getset _ _ _ _ _ (by rw [hl]; omega)]
  by_cases e : p = P
  · rw [if_neg (by omega), if_pos (by omega), if_pos e]
  · rw [if_neg (by omega), if_neg (by omega), if_neg e]
theorem own_app {es : List own_K} {q e : own_K} {i : Nat} (h : (es ++ [q])[i]? = some e) : es[i]? = some e ∨ (i = es.length ∧ e = q) := by
  by_cases hi : i < es.length
  · rw [List.getElem?_append_left hi] at h
    exact Or.inl h
  · rw [List.getElem?_append_right (Nat.le_of_not_lt hi)] at h
    have hz : i - es.length = 0 := by
      have := (List.getElem?_eq_some_iff.mp h).1
      simp at this
      omega
    rw [hz] at h
    exact Or.inr ⟨by omega, (Option.some.inj h).symm⟩
theorem own_appL {es : List own_K} {q e : own_K} {i : Nat} (h : es[i]? = some e) : (es ++ [q])[i]? = some e := by
  rw [List.getElem?_append_left (List.getElem?_eq_some_iff.mp h).1]
  exact h
theorem own_appR {es : List own_K} {q : own_K} : (es ++ [q])[es.length]? = some q := by
  rw [List.getElem?_append_right (Nat.le_refl _), Nat.sub_self]
  rfl
theorem own_modA {p P j1 j2 b : Nat} (h : (p + j1) % 64 = P) (h1 : j1 ≤ b) (h2 : j2 ≤ b) (hb : b ≤ 3) : (p + (j1 + 1 + j2)) % 64 = ((P + 1) % 64 + j2) % 64 ∧ ((P + 1) % 64 + j2) % 64 ≠ P ∧ j1 + 1 + j2 ≤ 2 * b + 1 := by
  subst h
  refine ⟨?_, ?_, ?_⟩ <;> omega
theorem own_Igrow {S : List Value} {es : List own_K} {b : Nat} (I : own_I S es b) {q : own_K} {j P : Nat} {m : Int32} (hl : es.length ≤ 2) (hb : b ≤ 3) (hP : P = (own_p q + j) % 64) (ho : ∀ j', j' < j → own_nm S ((own_p q + j') % 64) ≠ .int 0) (hf : own_nm S ((own_p q + j) % 64) = .int 0) (hm : m.toInt = (es.length : Int) + 1) (hn : ∀ i : Nat, es[i]? ≠ some q) : own_I ((S.set (2 * P) (.int (own_hq q))).set (2 * P + 1) (.int m)) (es ++ [q]) (2 * b + 1) := by
  have hP64 : P < 64 := by rw [hP]; exact Nat.mod_lt _ (by decide)
  have e0 : (0 : Int32).toInt = 0 := by decide
  have nm := own_nm' (S := S) (P := P) (x := .int (own_hq q)) (m := .int m) I.len hP64
  have hh := own_hh' (S := S) (P := P) (x := .int (own_hq q)) (m := .int m) I.len hP64
  rw [← hP] at hf
  have mz : Value.int m ≠ .int 0 := fun z => by rw [Value.int.inj z] at hm; omega
  refine ⟨fun p hp => ?_, fun i e h => ?_, fun p hp => ?_, by rw [List.length_append]; simp; omega, fun i i' e h h' => ?_, by rw [List.length_set, List.length_set]; exact I.len⟩
  · by_cases e : p = P
    · exact ⟨m, own_hq q, by rw [nm, if_pos e], by rw [hh, if_pos e], Or.inr ⟨es.length, q, own_appR, hm, rfl⟩⟩
    · obtain ⟨k, h, a1, a2, a3⟩ := I.num p hp
      exact ⟨k, h, by rw [nm, if_neg e]; exact a1, by rw [hh, if_neg e]; exact a2, a3.imp_right fun ⟨i, e, b1, b2⟩ => ⟨i, e, own_appL b1, b2⟩⟩
  · have occ : ∀ p, own_nm S p ≠ .int 0 → own_nm ((S.set (2 * P) (.int (own_hq q))).set (2 * P + 1) (.int m)) p ≠ .int 0 := fun p hp => by
      rw [nm]
      by_cases e : p = P
      · rw [if_pos e]; exact mz
      · rw [if_neg e]; exact hp
    rcases own_app h with h | ⟨h1, h2⟩
    · obtain ⟨ji, a1, k, a2, a3⟩ := I.reach i e h
      refine ⟨ji, fun j' hj => occ _ (a1 j' hj), k, a2, ?_⟩
      rw [nm, if_neg fun z => ?_]
      · exact a3
      · rw [z, hf] at a3
        rw [← Value.int.inj a3] at a2
        omega
    · subst h1 h2
      exact ⟨j, fun j' hj => occ _ (ho j' hj), m, hm, by rw [nm, if_pos hP.symm]⟩
  · obtain ⟨j1, a1, a2⟩ := I.free p hp
    by_cases e : (p + j1) % 64 = P
    · obtain ⟨j2, c1, c2⟩ := I.free ((P + 1) % 64) (Nat.mod_lt _ (by decide))
      obtain ⟨d1, d2, d3⟩ := own_modA e a1 c1 hb
      exact ⟨j1 + 1 + j2, d3, by rw [nm, d1, if_neg d2]; exact c2⟩
    · exact ⟨j1, by omega, by rw [nm, if_neg e]; exact a2⟩
  · rcases own_app h with h | ⟨h1, h2⟩ <;> rcases own_app h' with h' | ⟨h1', h2'⟩
    · exact I.uniq _ _ _ h h'
    · rw [h2'] at h; exact absurd h (hn i)
    · rw [h2] at h'; exact absurd h' (hn i')
    · omega
def own_cp (vd us : List Value) (dp nn : Nat) : List Value := vd.take dp ++ us ++ vd.drop (dp + nn)
theorem own_cpl {vd us : List Value} {dp nn : Nat} (hu : us.length = nn) (hl : dp + nn ≤ vd.length) : (own_cp vd us dp nn).length = vd.length := by
  unfold own_cp
  rw [List.length_append, List.length_append, List.length_take, List.length_drop, hu]
  omega
theorem own_cpA {vd us : List Value} {dp nn x : Nat} {d : Value} (hu : us.length = nn) (hl : dp + nn ≤ vd.length) (hx : x < dp) : (own_cp vd us dp nn).getD x d = vd.getD x d := by
  unfold own_cp
  rw [List.getD_eq_getElem?_getD, List.getD_eq_getElem?_getD, List.append_assoc, List.getElem?_append_left (by rw [List.length_take]; omega), List.getElem?_take_of_lt hx]
theorem own_cpB {vd us : List Value} {dp nn x : Nat} {d : Value} (hu : us.length = nn) (hl : dp + nn ≤ vd.length) (hx : x < nn) : (own_cp vd us dp nn).getD (dp + x) d = us.getD x d := by
  unfold own_cp
  have h1 : (vd.take dp).length = dp := by rw [List.length_take]; omega
  rw [List.getD_eq_getElem?_getD, List.getD_eq_getElem?_getD, List.append_assoc, List.getElem?_append_right (by rw [h1]; omega), h1, Nat.add_sub_cancel_left, List.getElem?_append_left (by rw [hu]; exact hx)]
theorem own_Ae {vs us : List Value} {f g n : Nat} (h : ∀ i, i < n → vs.getD (f + i) (.int (0 : Int32)) = us.getD (g + i) (.int (0 : Int32))) : own_A vs f n = own_A us g n := by
  unfold own_A
  exact List.map_congr_left fun i hi => h i (List.mem_range.mp hi)
theorem own_Acp1 {vd us : List Value} {dp nn f n : Nat} (hu : us.length = nn) (hl : dp + nn ≤ vd.length) (h : f + n ≤ dp) : own_A (own_cp vd us dp nn) f n = own_A vd f n := own_Ae fun i hi => own_cpA hu hl (by omega)
theorem own_Acp2 {vd us : List Value} {dp nn : Nat} (hu : us.length = nn) (hl : dp + nn ≤ vd.length) : own_A (own_cp vd us dp nn) dp nn = us := by
  refine List.ext_getElem? fun i => ?_
  by_cases hi : i < nn
  · have e := own_cpB (d := .int (0 : Int32)) hu hl hi
    rw [List.getD_eq_getElem?_getD (l := us), List.getElem?_eq_getElem (by rw [hu]; exact hi)] at e
    unfold own_A
    rw [List.getElem?_map, List.getElem?_range hi, List.getElem?_eq_getElem (by rw [hu]; exact hi)]
    exact congrArg some e
  · rw [List.getElem?_eq_none (by rw [own_Al]; omega), List.getElem?_eq_none (by rw [hu]; omega)]
def own_TB (K B : List Value) (kt : Int32) (es : List own_K) : Prop := ∀ (i : Nat) (e : own_K) (nu : Int32), es[i]? = some e → nu.toInt = (i : Int) → own_En K B kt nu e.1 e.2
theorem own_Tgrow {K B us us' : List Value} {kt kt' sz n1 n2 : Int32} {es : List own_K} (T : own_TB K B kt es) (hK : K.length = 192) (hB : B.length = 64) (hl : es.length ≤ 2) (hs : sz.toInt = es.length) (k0 : 0 ≤ kt.toInt) (k1 : kt.toInt ≤ 50) (a0 : 0 ≤ n1.toInt) (a2 : n1.toInt ≤ 2) (b0 : 0 ≤ n2.toInt) (b2 : n2.toInt ≤ 2) (hk : kt'.toInt = kt.toInt + n1.toInt + n2.toInt) (hu : us.length = n1.toNatClampNeg) (hu' : us'.length = n2.toNatClampNeg) :
    own_TB (((K.set ((3 : Int32) * sz).toNatClampNeg (.int kt)).set (((3 : Int32) * sz) + (1 : Int32)).toNatClampNeg (.int n1)).set (((3 : Int32) * sz) + (2 : Int32)).toNatClampNeg (.int n2)) (own_cp (own_cp B us kt.toNatClampNeg n1.toNatClampNeg) us' (kt + n1).toNatClampNeg n2.toNatClampNeg) kt' (es ++ [(us, us')]) := by
  have e0 : (0 : Int32).toInt = 0 := by decide
  have s3 := own_k3 (i := sz) (by omega) (by omega)
  have t0 := nat_of (own_nlt_ (x := (3 : Int32) * sz) (y := 0) (by omega))
  have t1 := nat_of (own_nlt_ (x := ((3 : Int32) * sz) + (1 : Int32)) (y := 0) (by omega))
  have t2 := nat_of (own_nlt_ (x := ((3 : Int32) * sz) + (2 : Int32)) (y := 0) (by omega))
  have ktn := nat_of (own_nlt_ (x := kt) (y := 0) (by omega))
  have n1n := nat_of (own_nlt_ (x := n1) (y := 0) (by omega))
  have n2n := nat_of (own_nlt_ (x := n2) (y := 0) (by omega))
  have kn := own_add1 (f := kt) (k := n1) (by omega) (by omega) (by omega) (by omega)
  have c1 : kt.toNatClampNeg + n1.toNatClampNeg ≤ B.length := by omega
  have c2 : (kt + n1).toNatClampNeg + n2.toNatClampNeg ≤ (own_cp B us kt.toNatClampNeg n1.toNatClampNeg).length := by rw [own_cpl hu c1]; omega
  have g : ∀ x, (((K.set ((3 : Int32) * sz).toNatClampNeg (.int kt)).set (((3 : Int32) * sz) + (1 : Int32)).toNatClampNeg (.int n1)).set (((3 : Int32) * sz) + (2 : Int32)).toNatClampNeg (.int n2)).getD x (.int (0 : Int32)) = if x = (((3 : Int32) * sz) + (2 : Int32)).toNatClampNeg then .int n2 else if x = (((3 : Int32) * sz) + (1 : Int32)).toNatClampNeg then .int n1 else if x = ((3 : Int32) * sz).toNatClampNeg then .int kt else K.getD x (.int (0 : Int32)) := fun x => by
    rw [own_getset _ _ _ _ _ (by rw [List.length_set, List.length_set]; omega), own_getset _ _ _ _ _ (by rw [List.length_set]; omega), own_getset _ _ _ _ _ (by omega)]
  intro i e nu h hn
  rcases own_app h with h | ⟨h1, h2⟩
  · have hi := (List.getElem?_eq_some_iff.mp h).1
    obtain ⟨off, l1, l2, q1, q2, q3, q4, q5, q6, q7, q8, q9, q10, q11⟩ := T i e nu h hn
    have r3 := own_k3 (i := nu) (by omega) (by omega)
    have u0 := nat_of (own_nlt_ (x := (3 : Int32) * nu) (y := 0) (by omega))
    have u1 := nat_of (own_nlt_ (x := ((3 : Int32) * nu) + (1 : Int32)) (y := 0) (by omega))
    have u2 := nat_of (own_nlt_ (x := ((3 : Int32) * nu) + (2 : Int32)) (y := 0) (by omega))
    have on := nat_of (own_nlt_ (x := off) (y := 0) (by omega))
    have l1n := nat_of (own_nlt_ (x := l1) (y := 0) (by omega))
    have l2n := nat_of (own_nlt_ (x := l2) (y := 0) (by omega))
    have ol := own_add1 (f := off) (k := l1) (by omega) (by omega) (by omega) (by omega)
    refine ⟨off, l1, l2, ?_, ?_, ?_, q4, q5, q6, q7, q8, by omega, ?_, ?_⟩
    · rw [g, if_neg (by omega), if_neg (by omega), if_neg (by omega)]; exact q1
    · rw [g, if_neg (by omega), if_neg (by omega), if_neg (by omega)]; exact q2
    · rw [g, if_neg (by omega), if_neg (by omega), if_neg (by omega)]; exact q3
    · rw [own_Acp1 hu' c2 (by omega), own_Acp1 hu c1 (by omega)]; exact q10
    · rw [own_Acp1 hu' c2 (by omega), own_Acp1 hu c1 (by omega)]; exact q11
  · have en : nu = sz := Int32.toInt_inj.mp (by omega)
    subst en h2
    refine ⟨kt, n1, n2, ?_, ?_, ?_, k0, a0, a2, b0, b2, by omega, ?_, ?_⟩
    · rw [g, if_neg (by omega), if_neg (by omega), if_pos rfl]
    · rw [g, if_neg (by omega), if_pos rfl]
    · rw [g, if_pos rfl]
    · rw [own_Acp1 hu' c2 (by omega)]
      exact own_Acp2 hu c1
    · exact own_Acp2 hu' c2
theorem own_kp1 {sz kt n1 n2 : Int32} (s0 : 0 ≤ sz.toInt) (s2 : sz.toInt ≤ 2) (k0 : 0 ≤ kt.toInt) (k8 : kt.toInt ≤ 8) (a0 : 0 ≤ n1.toInt) (a2 : n1.toInt ≤ 2) (b0 : 0 ≤ n2.toInt) (b2 : n2.toInt ≤ 2) : ¬ ((1 : Int32) <<< ((6 : Int32) &&& 31)) < ((2 : Int32) * (sz + (1 : Int32))) ∧ ¬ sz = (64 : Int32) ∧ ¬ (64 : Int32) < ((kt + n1) + n2) := by
  have e0 : (0 : Int32).toInt = 0 := by decide
  have e1 : (1 : Int32).toInt = 1 := by decide
  have e2 : (2 : Int32).toInt = 2 := by decide
  have e64 : (64 : Int32).toInt = 64 := by decide
  have es : ((1 : Int32) <<< ((6 : Int32) &&& 31)).toInt = 64 := by decide
  have a := own_add1 (f := sz) (k := (1 : Int32)) s0 (by omega) (by decide) (by decide)
  have m := own_2 (s := sz + (1 : Int32)) (by omega) (by omega)
  have b := own_add1 (f := kt) (k := n1) k0 (by omega) a0 (by omega)
  have d := own_add1 (f := kt + n1) (k := n2) (by omega) (by omega) b0 (by omega)
  refine ⟨own_nlt_ (by omega), fun q => ?_, own_nlt_ (by omega)⟩
  rw [q] at s2
  omega
theorem own_kp2 {sz : Int32} (s0 : 0 ≤ sz.toInt) (s2 : sz.toInt ≤ 2) : (¬ ((3 : Int32) * sz) < 0 ∧ ((3 : Int32) * sz) < (192 : Int32)) ∧ (¬ (((3 : Int32) * sz) + (1 : Int32)) < 0 ∧ (((3 : Int32) * sz) + (1 : Int32)) < (192 : Int32)) ∧ (¬ (((3 : Int32) * sz) + (2 : Int32)) < 0 ∧ (((3 : Int32) * sz) + (2 : Int32)) < (192 : Int32)) ∧ ((3 : Int32) * sz).toNatClampNeg < 192 ∧ (((3 : Int32) * sz) + (1 : Int32)).toNatClampNeg < 192 ∧ (((3 : Int32) * sz) + (2 : Int32)).toNatClampNeg < 192 ∧ (¬ sz < 0 ∧ sz < (64 : Int32)) ∧ sz.toNatClampNeg < 64 := by
  have e0 : (0 : Int32).toInt = 0 := by decide
  have e192 : (192 : Int32).toInt = 192 := by decide
  have e64 : (64 : Int32).toInt = 64 := by decide
  have k3 := own_k3 s0 s2
  have t := nat_of (own_nlt_ (x := sz) (y := 0) (by omega))
  have t0 := nat_of (own_nlt_ (x := (3 : Int32) * sz) (y := 0) (by omega))
  have t1 := nat_of (own_nlt_ (x := ((3 : Int32) * sz) + (1 : Int32)) (y := 0) (by omega))
  have t2 := nat_of (own_nlt_ (x := ((3 : Int32) * sz) + (2 : Int32)) (y := 0) (by omega))
  exact ⟨⟨own_nlt_ (by omega), own_lt_ (by omega)⟩, ⟨own_nlt_ (by omega), own_lt_ (by omega)⟩, ⟨own_nlt_ (by omega), own_lt_ (by omega)⟩, by omega, by omega, by omega, ⟨own_nlt_ (by omega), own_lt_ (by omega)⟩, by omega⟩
theorem own_kp3 {f n d m : Int32} (B1 : own_B f n) (d0 : 0 ≤ d.toInt) (d20 : d.toInt ≤ 20) (hm : m.toNatClampNeg = 64) : ¬ f < 0 ∧ ¬ d < 0 ∧ ¬ n < 0 ∧ f.toNatClampNeg + n.toNatClampNeg ≤ (6 : Int32).toNatClampNeg ∧ d.toNatClampNeg + n.toNatClampNeg ≤ m.toNatClampNeg := by
  obtain ⟨a, b, c, e⟩ := B1
  have e0 : (0 : Int32).toInt = 0 := by decide
  have e6 : (6 : Int32).toNatClampNeg = 6 := by decide
  have h1 : ¬ f < 0 := own_nlt_ (by omega)
  have h2 : ¬ d < 0 := own_nlt_ (by omega)
  have h3 : ¬ n < 0 := own_nlt_ (by omega)
  have t1 := nat_of h1
  have t2 := nat_of h2
  have t3 := nat_of h3
  exact ⟨h1, h2, h3, by omega, by omega⟩
theorem own_d10_0 : decode prog_20_method_8_code 0 = .ok (.iconst 2, 1) := by decide +kernel
theorem own_d10_1 : decode prog_20_method_8_code 1 = .ok (.aload_n 0, 1) := by decide +kernel
theorem own_d10_2 : decode prog_20_method_8_code 2 = .ok (.getfield 28, 3) := by decide +kernel
theorem own_d10_5 : decode prog_20_method_8_code 5 = .ok (.iconst 1, 1) := by decide +kernel
theorem own_d10_6 : decode prog_20_method_8_code 6 = .ok (.iadd, 1) := by decide +kernel
theorem own_d10_7 : decode prog_20_method_8_code 7 = .ok (.imul, 1) := by decide +kernel
theorem own_d10_8 : decode prog_20_method_8_code 8 = .ok (.iconst 1, 1) := by decide +kernel
theorem own_d10_9 : decode prog_20_method_8_code 9 = .ok (.aload_n 0, 1) := by decide +kernel
theorem own_d10_10 : decode prog_20_method_8_code 10 = .ok (.getfield 13, 3) := by decide +kernel
theorem own_d10_13 : decode prog_20_method_8_code 13 = .ok (.ishl, 1) := by decide +kernel
theorem own_d10_14 : decode prog_20_method_8_code 14 = .ok (.if_icmp .le 7, 3) := by decide +kernel
theorem own_d10_21 : decode prog_20_method_8_code 21 = .ok (.aload_n 0, 1) := by decide +kernel
theorem own_d10_22 : decode prog_20_method_8_code 22 = .ok (.getfield 28, 3) := by decide +kernel
theorem own_d10_25 : decode prog_20_method_8_code 25 = .ok (.aload_n 0, 1) := by decide +kernel
theorem own_d10_26 : decode prog_20_method_8_code 26 = .ok (.getfield 24, 3) := by decide +kernel
theorem own_d10_29 : decode prog_20_method_8_code 29 = .ok (.arraylength, 1) := by decide +kernel
theorem own_d10_30 : decode prog_20_method_8_code 30 = .ok (.if_icmp .ne 39, 3) := by decide +kernel
theorem own_d10_69 : decode prog_20_method_8_code 69 = .ok (.iload_n 3, 1) := by decide +kernel
theorem own_d10_70 : decode prog_20_method_8_code 70 = .ok (.iload_n 2, 1) := by decide +kernel
theorem own_d10_71 : decode prog_20_method_8_code 71 = .ok (.isub, 1) := by decide +kernel
theorem own_d10_72 : decode prog_20_method_8_code 72 = .ok (.istore 7, 2) := by decide +kernel
theorem own_d10_74 : decode prog_20_method_8_code 74 = .ok (.iload 5, 2) := by decide +kernel
theorem own_d10_76 : decode prog_20_method_8_code 76 = .ok (.iload 4, 2) := by decide +kernel
theorem own_d10_78 : decode prog_20_method_8_code 78 = .ok (.isub, 1) := by decide +kernel
theorem own_d10_79 : decode prog_20_method_8_code 79 = .ok (.istore 8, 2) := by decide +kernel
theorem own_d10_81 : decode prog_20_method_8_code 81 = .ok (.aload_n 0, 1) := by decide +kernel
theorem own_d10_82 : decode prog_20_method_8_code 82 = .ok (.getfield 68, 3) := by decide +kernel
theorem own_d10_85 : decode prog_20_method_8_code 85 = .ok (.iload 7, 2) := by decide +kernel
theorem own_d10_87 : decode prog_20_method_8_code 87 = .ok (.iadd, 1) := by decide +kernel
theorem own_d10_88 : decode prog_20_method_8_code 88 = .ok (.iload 8, 2) := by decide +kernel
theorem own_d10_90 : decode prog_20_method_8_code 90 = .ok (.iadd, 1) := by decide +kernel
theorem own_d10_91 : decode prog_20_method_8_code 91 = .ok (.aload_n 0, 1) := by decide +kernel
theorem own_d10_92 : decode prog_20_method_8_code 92 = .ok (.getfield 17, 3) := by decide +kernel
theorem own_d10_95 : decode prog_20_method_8_code 95 = .ok (.arraylength, 1) := by decide +kernel
theorem own_d10_96 : decode prog_20_method_8_code 96 = .ok (.if_icmp .le 26, 3) := by decide +kernel
theorem own_d10_122 : decode prog_20_method_8_code 122 = .ok (.aload_n 0, 1) := by decide +kernel
theorem own_d10_123 : decode prog_20_method_8_code 123 = .ok (.getfield 21, 3) := by decide +kernel
theorem own_d10_126 : decode prog_20_method_8_code 126 = .ok (.iconst 3, 1) := by decide +kernel
theorem own_d10_127 : decode prog_20_method_8_code 127 = .ok (.aload_n 0, 1) := by decide +kernel
theorem own_d10_128 : decode prog_20_method_8_code 128 = .ok (.getfield 28, 3) := by decide +kernel
theorem own_d10_131 : decode prog_20_method_8_code 131 = .ok (.imul, 1) := by decide +kernel
theorem own_d10_132 : decode prog_20_method_8_code 132 = .ok (.aload_n 0, 1) := by decide +kernel
theorem own_d10_133 : decode prog_20_method_8_code 133 = .ok (.getfield 68, 3) := by decide +kernel
theorem own_d10_136 : decode prog_20_method_8_code 136 = .ok (.iastore, 1) := by decide +kernel
theorem own_d10_137 : decode prog_20_method_8_code 137 = .ok (.aload_n 0, 1) := by decide +kernel
theorem own_d10_138 : decode prog_20_method_8_code 138 = .ok (.getfield 21, 3) := by decide +kernel
theorem own_d10_141 : decode prog_20_method_8_code 141 = .ok (.iconst 3, 1) := by decide +kernel
theorem own_d10_142 : decode prog_20_method_8_code 142 = .ok (.aload_n 0, 1) := by decide +kernel
theorem own_d10_143 : decode prog_20_method_8_code 143 = .ok (.getfield 28, 3) := by decide +kernel
theorem own_d10_146 : decode prog_20_method_8_code 146 = .ok (.imul, 1) := by decide +kernel
theorem own_d10_147 : decode prog_20_method_8_code 147 = .ok (.iconst 1, 1) := by decide +kernel
theorem own_d10_148 : decode prog_20_method_8_code 148 = .ok (.iadd, 1) := by decide +kernel
theorem own_d10_149 : decode prog_20_method_8_code 149 = .ok (.iload 7, 2) := by decide +kernel
theorem own_d10_151 : decode prog_20_method_8_code 151 = .ok (.iastore, 1) := by decide +kernel
theorem own_d10_152 : decode prog_20_method_8_code 152 = .ok (.aload_n 0, 1) := by decide +kernel
theorem own_d10_153 : decode prog_20_method_8_code 153 = .ok (.getfield 21, 3) := by decide +kernel
theorem own_d10_156 : decode prog_20_method_8_code 156 = .ok (.iconst 3, 1) := by decide +kernel
theorem own_d10_157 : decode prog_20_method_8_code 157 = .ok (.aload_n 0, 1) := by decide +kernel
theorem own_d10_158 : decode prog_20_method_8_code 158 = .ok (.getfield 28, 3) := by decide +kernel
theorem own_d10_161 : decode prog_20_method_8_code 161 = .ok (.imul, 1) := by decide +kernel
theorem own_d10_162 : decode prog_20_method_8_code 162 = .ok (.iconst 2, 1) := by decide +kernel
theorem own_d10_163 : decode prog_20_method_8_code 163 = .ok (.iadd, 1) := by decide +kernel
theorem own_d10_164 : decode prog_20_method_8_code 164 = .ok (.iload 8, 2) := by decide +kernel
theorem own_d10_166 : decode prog_20_method_8_code 166 = .ok (.iastore, 1) := by decide +kernel
theorem own_d10_167 : decode prog_20_method_8_code 167 = .ok (.aload_n 1, 1) := by decide +kernel
theorem own_d10_168 : decode prog_20_method_8_code 168 = .ok (.iload_n 2, 1) := by decide +kernel
theorem own_d10_169 : decode prog_20_method_8_code 169 = .ok (.aload_n 0, 1) := by decide +kernel
theorem own_d10_170 : decode prog_20_method_8_code 170 = .ok (.getfield 17, 3) := by decide +kernel
theorem own_d10_173 : decode prog_20_method_8_code 173 = .ok (.aload_n 0, 1) := by decide +kernel
theorem own_d10_174 : decode prog_20_method_8_code 174 = .ok (.getfield 68, 3) := by decide +kernel
theorem own_d10_177 : decode prog_20_method_8_code 177 = .ok (.iload 7, 2) := by decide +kernel
theorem own_d10_179 : decode prog_20_method_8_code 179 = .ok (.invokestatic 74, 3) := by decide +kernel
theorem own_d10_182 : decode prog_20_method_8_code 182 = .ok (.aload_n 1, 1) := by decide +kernel
theorem own_d10_183 : decode prog_20_method_8_code 183 = .ok (.iload 4, 2) := by decide +kernel
theorem own_d10_185 : decode prog_20_method_8_code 185 = .ok (.aload_n 0, 1) := by decide +kernel
theorem own_d10_186 : decode prog_20_method_8_code 186 = .ok (.getfield 17, 3) := by decide +kernel
theorem own_d10_189 : decode prog_20_method_8_code 189 = .ok (.aload_n 0, 1) := by decide +kernel
theorem own_d10_190 : decode prog_20_method_8_code 190 = .ok (.getfield 68, 3) := by decide +kernel
theorem own_d10_193 : decode prog_20_method_8_code 193 = .ok (.iload 7, 2) := by decide +kernel
theorem own_d10_195 : decode prog_20_method_8_code 195 = .ok (.iadd, 1) := by decide +kernel
theorem own_d10_196 : decode prog_20_method_8_code 196 = .ok (.iload 8, 2) := by decide +kernel
theorem own_d10_198 : decode prog_20_method_8_code 198 = .ok (.invokestatic 74, 3) := by decide +kernel
theorem own_d10_201 : decode prog_20_method_8_code 201 = .ok (.aload_n 0, 1) := by decide +kernel
theorem own_d10_202 : decode prog_20_method_8_code 202 = .ok (.dup, 1) := by decide +kernel
theorem own_d10_203 : decode prog_20_method_8_code 203 = .ok (.getfield 68, 3) := by decide +kernel
theorem own_d10_206 : decode prog_20_method_8_code 206 = .ok (.iload 7, 2) := by decide +kernel
theorem own_d10_208 : decode prog_20_method_8_code 208 = .ok (.iload 8, 2) := by decide +kernel
theorem own_d10_210 : decode prog_20_method_8_code 210 = .ok (.iadd, 1) := by decide +kernel
theorem own_d10_211 : decode prog_20_method_8_code 211 = .ok (.iadd, 1) := by decide +kernel
theorem own_d10_212 : decode prog_20_method_8_code 212 = .ok (.putfield 68, 3) := by decide +kernel
theorem own_d10_215 : decode prog_20_method_8_code 215 = .ok (.aload_n 0, 1) := by decide +kernel
theorem own_d10_216 : decode prog_20_method_8_code 216 = .ok (.getfield 24, 3) := by decide +kernel
theorem own_d10_219 : decode prog_20_method_8_code 219 = .ok (.aload_n 0, 1) := by decide +kernel
theorem own_d10_220 : decode prog_20_method_8_code 220 = .ok (.getfield 28, 3) := by decide +kernel
theorem own_d10_223 : decode prog_20_method_8_code 223 = .ok (.aload 6, 2) := by decide +kernel
theorem own_d10_225 : decode prog_20_method_8_code 225 = .ok (.aastore, 1) := by decide +kernel
theorem own_d10_226 : decode prog_20_method_8_code 226 = .ok (.aload_n 1, 1) := by decide +kernel
theorem own_d10_227 : decode prog_20_method_8_code 227 = .ok (.iload_n 2, 1) := by decide +kernel
theorem own_d10_228 : decode prog_20_method_8_code 228 = .ok (.iload_n 3, 1) := by decide +kernel
theorem own_d10_229 : decode prog_20_method_8_code 229 = .ok (.aload_n 1, 1) := by decide +kernel
theorem own_d10_230 : decode prog_20_method_8_code 230 = .ok (.iload 4, 2) := by decide +kernel
theorem own_d10_232 : decode prog_20_method_8_code 232 = .ok (.iload 5, 2) := by decide +kernel
theorem own_d10_234 : decode prog_20_method_8_code 234 = .ok (.iconst 0, 1) := by decide +kernel
theorem own_2n {s : Int32} (h0 : 0 ≤ s.toInt) (h1 : s.toInt < 64) : ((2 : Int32) * s).toNatClampNeg < 128 ∧ (((2 : Int32) * s) + (1 : Int32)).toNatClampNeg < 128 := by
  have e0 : (0 : Int32).toInt = 0 := by decide
  have a := own_2 h0 h1
  have n := nat_of (own_nlt_ (x := s) (y := 0) (by omega))
  omega
theorem own_kt' {kt n1 n2 : Int32} (k0 : 0 ≤ kt.toInt) (k8 : kt.toInt ≤ 8) (a0 : 0 ≤ n1.toInt) (a2 : n1.toInt ≤ 2) (b0 : 0 ≤ n2.toInt) (b2 : n2.toInt ≤ 2) : (kt + (n1 + n2)).toInt = kt.toInt + n1.toInt + n2.toInt ∧ 0 ≤ (kt + (n1 + n2)).toInt ∧ (kt + (n1 + n2)).toInt ≤ kt.toInt + 4 := by
  have a := own_add1 (f := n1) (k := n2) a0 (by omega) b0 (by omega)
  have b := own_add1 (f := kt) (k := n1 + n2) k0 (by omega) (by omega) (by omega)
  refine ⟨?_, ?_, ?_⟩ <;> omega
theorem own_szp {sz : Int32} {n : Nat} (h : sz.toInt = n) (h2 : n ≤ 2) : (sz + (1 : Int32)).toInt = (n : Int) + 1 := by
  have one : (1 : Int32).toInt = 1 := by decide
  have a := own_add1 (f := sz) (k := (1 : Int32)) (by omega) (by omega) (by decide) (by decide)
  omega
theorem own_d10_235 : decode prog_20_method_8_code 235 = .ok (.invokestatic 80, 3) := by decide +kernel
theorem own_d10_238 : decode prog_20_method_8_code 238 = .ok (.invokestatic 80, 3) := by decide +kernel
theorem own_d10_241 : decode prog_20_method_8_code 241 = .ok (.istore 9, 2) := by decide +kernel
theorem own_d10_243 : decode prog_20_method_8_code 243 = .ok (.aload_n 0, 1) := by decide +kernel
theorem own_d10_244 : decode prog_20_method_8_code 244 = .ok (.iload 9, 2) := by decide +kernel
theorem own_d10_246 : decode prog_20_method_8_code 246 = .ok (.invokevirtual 84, 3) := by decide +kernel
theorem own_d10_249 : decode prog_20_method_8_code 249 = .ok (.istore 10, 2) := by decide +kernel
theorem own_d10_251 : decode prog_20_method_8_code 251 = .ok (.aload_n 0, 1) := by decide +kernel
theorem own_d10_252 : decode prog_20_method_8_code 252 = .ok (.getfield 9, 3) := by decide +kernel
theorem own_d10_255 : decode prog_20_method_8_code 255 = .ok (.iconst 2, 1) := by decide +kernel
theorem own_d10_256 : decode prog_20_method_8_code 256 = .ok (.iload 10, 2) := by decide +kernel
theorem own_d10_258 : decode prog_20_method_8_code 258 = .ok (.imul, 1) := by decide +kernel
theorem own_d10_259 : decode prog_20_method_8_code 259 = .ok (.iload 9, 2) := by decide +kernel
theorem own_d10_261 : decode prog_20_method_8_code 261 = .ok (.iastore, 1) := by decide +kernel
theorem own_d10_262 : decode prog_20_method_8_code 262 = .ok (.aload_n 0, 1) := by decide +kernel
theorem own_d10_263 : decode prog_20_method_8_code 263 = .ok (.getfield 9, 3) := by decide +kernel
theorem own_d10_266 : decode prog_20_method_8_code 266 = .ok (.iconst 2, 1) := by decide +kernel
theorem own_d10_267 : decode prog_20_method_8_code 267 = .ok (.iload 10, 2) := by decide +kernel
theorem own_d10_269 : decode prog_20_method_8_code 269 = .ok (.imul, 1) := by decide +kernel
theorem own_d10_270 : decode prog_20_method_8_code 270 = .ok (.iconst 1, 1) := by decide +kernel
theorem own_d10_271 : decode prog_20_method_8_code 271 = .ok (.iadd, 1) := by decide +kernel
theorem own_d10_272 : decode prog_20_method_8_code 272 = .ok (.aload_n 0, 1) := by decide +kernel
theorem own_d10_273 : decode prog_20_method_8_code 273 = .ok (.getfield 28, 3) := by decide +kernel
theorem own_d10_276 : decode prog_20_method_8_code 276 = .ok (.iconst 1, 1) := by decide +kernel
theorem own_d10_277 : decode prog_20_method_8_code 277 = .ok (.iadd, 1) := by decide +kernel
theorem own_d10_278 : decode prog_20_method_8_code 278 = .ok (.iastore, 1) := by decide +kernel
theorem own_d10_279 : decode prog_20_method_8_code 279 = .ok (.aload_n 0, 1) := by decide +kernel
theorem own_d10_280 : decode prog_20_method_8_code 280 = .ok (.aload_n 0, 1) := by decide +kernel
theorem own_d10_281 : decode prog_20_method_8_code 281 = .ok (.getfield 28, 3) := by decide +kernel
theorem own_d10_284 : decode prog_20_method_8_code 284 = .ok (.putfield 45, 3) := by decide +kernel
theorem own_d10_287 : decode prog_20_method_8_code 287 = .ok (.aload_n 0, 1) := by decide +kernel
theorem own_d10_288 : decode prog_20_method_8_code 288 = .ok (.dup, 1) := by decide +kernel
theorem own_d10_289 : decode prog_20_method_8_code 289 = .ok (.getfield 28, 3) := by decide +kernel
theorem own_d10_292 : decode prog_20_method_8_code 292 = .ok (.iconst 1, 1) := by decide +kernel
theorem own_d10_293 : decode prog_20_method_8_code 293 = .ok (.iadd, 1) := by decide +kernel
theorem own_d10_294 : decode prog_20_method_8_code 294 = .ok (.putfield 28, 3) := by decide +kernel
theorem own_d10_297 : decode prog_20_method_8_code 297 = .ok (.aload_n 0, 1) := by decide +kernel
theorem own_d10_298 : decode prog_20_method_8_code 298 = .ok (.getfield 45, 3) := by decide +kernel
theorem own_d10_301 : decode prog_20_method_8_code 301 = .ok (.ireturn, 1) := by decide +kernel
theorem own_fk_ef (m : MethodId) (a : Addr) (t : Addr) (k : ClassId) (tb : List Value) (f1 : Int32) (n1 : Int32) (f2 : Int32) (n2 : Int32) (sa : Addr) (ks : ClassId) (S : List Value) (es : List own_K) (b : Nat) (ka : Addr) (kb : Addr) (kka : ClassId) (kkb : ClassId) (K : List Value) (B : List Value) (kt : Int32) (va : Addr) (kv : ClassId) (sz : Int32) (rc : Int32) : entryFrame m #[(.ref a), (.ref t), (.int f1), (.int (f1 + n1)), (.int f2), (.int (f2 + n2)), .null] 11 = mkF m 0 #[.val (.ref a), .val (.ref t), .val (.int f1), .val (.int (f1 + n1)), .val (.int f2), .val (.int (f2 + n2)), .val .null, .unset, .unset, .unset, .unset] [] := by first | (simp [entryFrame, mkF, argsToLocals, Value.category]; done) | rfl
def own_fk_Q (Z : State) (a : Addr) (t : Addr) (k : ClassId) (tb : List Value) (f1 : Int32) (n1 : Int32) (f2 : Int32) (n2 : Int32) (sa : Addr) (ks : ClassId) (S : List Value) (es : List own_K) (b : Nat) (ka : Addr) (kb : Addr) (kka : ClassId) (kkb : ClassId) (K : List Value) (B : List Value) (kt : Int32) (va : Addr) (kv : ClassId) (sz : Int32) (rc : Int32) (h0 : Heap) (n0 : Nat) (v : Option Value) (h : Heap) (L : List Loc) : Prop := ∃ S' K' B' kt', v = some (.int sz) ∧ Fr n0 L ∧ Keep h0 h [a, sa, ka, kb, va] ∧ Exa Z h a "com/example/vestbook/vestbook/FirstCopies" ∧ Fld Z h a "com/example/vestbook/vestbook/FirstCopies" "slots" "[I" (.ref sa) ∧ Fld Z h a "com/example/vestbook/vestbook/FirstCopies" "bits" "I" (.int (6 : Int32)) ∧ Fld Z h a "com/example/vestbook/vestbook/FirstCopies" "keyBytes" "[B" (.ref kb) ∧ Fld Z h a "com/example/vestbook/vestbook/FirstCopies" "keys" "[I" (.ref ka) ∧ Fld Z h a "com/example/vestbook/vestbook/FirstCopies" "values" "[Ljava/lang/Object;" (.ref va) ∧ Fld Z h a "com/example/vestbook/vestbook/FirstCopies" "size" "I" (.int (sz + (1 : Int32))) ∧ Fld Z h a "com/example/vestbook/vestbook/FirstCopies" "keyBytesTaken" "I" (.int kt') ∧ Fld Z h a "com/example/vestbook/vestbook/FirstCopies" "recent" "I" (.int sz) ∧ Arv Z h sa ks .int (128 : Int32) S' (.int (0 : Int32)) ∧ Arv Z h kb kkb .byte (64 : Int32) B' (.int (0 : Int32)) ∧ Arv Z h ka kka .int (192 : Int32) K' (.int (0 : Int32)) ∧ Arv Z h va kv (.object "java/lang/Object") (64 : Int32) [] .null ∧ own_I S' (es ++ [(own_A tb f1.toNatClampNeg n1.toNatClampNeg, own_A tb f2.toNatClampNeg n2.toNatClampNeg)]) (2 * b + 1) ∧ own_TB K' B' kt' (es ++ [(own_A tb f1.toNatClampNeg n1.toNatClampNeg, own_A tb f2.toNatClampNeg n2.toNatClampNeg)]) ∧ K'.length = 192 ∧ B'.length = 64 ∧ 0 ≤ kt'.toInt ∧ kt'.toInt ≤ kt.toInt + 4
set_option maxRecDepth 65536 in
set_option maxHeartbeats 40000000 in
theorem own_fk (l : Launch) (Z : State) (a0 : Array Value) (hw : ∀ d ∈ tables_1, d.before a0 Z = true) (ws : List Jvm.Cond) (a : Addr) (t : Addr) (k : ClassId) (tb : List Value) (f1 : Int32) (n1 : Int32) (f2 : Int32) (n2 : Int32) (sa : Addr) (ks : ClassId) (S : List Value) (es : List own_K) (b : Nat) (ka : Addr) (kb : Addr) (kka : ClassId) (kkb : ClassId) (K : List Value) (B : List Value) (kt : Int32) (va : Addr) (kv : ClassId) (sz : Int32) (rc : Int32) (h0 : Heap) (n0 : Nat) (Z0 : n0 ≤ h0.size) (F_slots : Fld Z h0 a "com/example/vestbook/vestbook/FirstCopies" "slots" "[I" (.ref sa)) (F_bits : Fld Z h0 a "com/example/vestbook/vestbook/FirstCopies" "bits" "I" (.int (6 : Int32))) (V_sa : Arv Z h0 sa ks .int (128 : Int32) S (.int (0 : Int32))) (E_a : Exa Z h0 a "com/example/vestbook/vestbook/FirstCopies") (F_keys : Fld Z h0 a "com/example/vestbook/vestbook/FirstCopies" "keys" "[I" (.ref ka)) (F_kb : Fld Z h0 a "com/example/vestbook/vestbook/FirstCopies" "keyBytes" "[B" (.ref kb)) (V_ka : Arv Z h0 ka kka .int (192 : Int32) K (.int (0 : Int32))) (V_kb : Arv Z h0 kb kkb .byte (64 : Int32) B (.int (0 : Int32))) (F_size : Fld Z h0 a "com/example/vestbook/vestbook/FirstCopies" "size" "I" (.int sz)) (F_rec : Fld Z h0 a "com/example/vestbook/vestbook/FirstCopies" "recent" "I" (.int rc)) (V_t : Arv Z h0 t k .byte (6 : Int32) tb (.int (0 : Int32))) (F_va : Fld Z h0 a "com/example/vestbook/vestbook/FirstCopies" "values" "[Ljava/lang/Object;" (.ref va)) (F_kt : Fld Z h0 a "com/example/vestbook/vestbook/FirstCopies" "keyBytesTaken" "I" (.int kt)) (V_va : Arv Z h0 va kv (.object "java/lang/Object") (64 : Int32) [] .null) (g_a : n0 ≤ a) (g_sa : n0 ≤ sa) (g_ka : n0 ≤ ka) (g_kb : n0 ≤ kb) (g_va : n0 ≤ va) (ne_a_t : a ≠ t) (ne_a_sa : a ≠ sa) (ne_a_ka : a ≠ ka) (ne_a_kb : a ≠ kb) (ne_a_va : a ≠ va) (ne_t_sa : t ≠ sa) (ne_t_ka : t ≠ ka) (ne_t_kb : t ≠ kb) (ne_t_va : t ≠ va) (ne_sa_ka : sa ≠ ka) (ne_sa_kb : sa ≠ kb) (ne_sa_va : sa ≠ va) (ne_ka_kb : ka ≠ kb) (ne_ka_va : ka ≠ va) (ne_kb_va : kb ≠ va) (I : own_I S es b) (Tb : own_TB K B kt es) (hKl : K.length = 192) (hB : B.length = 64) (hl : es.length ≤ 2) (hb3 : b ≤ 3) (hsz : sz.toInt = es.length) (kt0 : 0 ≤ kt.toInt) (kt8 : kt.toInt ≤ 8) (B1 : own_B f1 n1) (B2 : own_B f2 n2) (hnew : ∀ i : Nat, es[i]? ≠ some (own_A tb f1.toNatClampNeg n1.toNatClampNeg, own_A tb f2.toNatClampNeg n2.toNatClampNeg)) :
    MetFree l (⟨"com/example/vestbook/vestbook/FirstCopies", "keep", "([BIIIILjava/lang/Object;)I"⟩ : MethodName) (head1 (Jvm.Cond.code (⟨"com/example/vestbook/vestbook/FirstCopies", "keep", "([BIIIILjava/lang/Object;)I"⟩ : MethodName) prog_20_method_8_code 11 (some .int) :: ws) ({ frames := 2, cells := 0, slots := 0, locals := 40 } : Room)) (fun as_ U => as_ = #[(.ref a), (.ref t), (.int f1), (.int (f1 + n1)), (.int f2), (.int (f2 + n2)), .null] ∧ Z.Warmed39 U.vm ∧ U.heap = h0) (fun _ _ _ _ _ => True) (fun _ U_ o_ V_ => ∃ v_ L_, o_ = .returned v_ ∧ own_fk_Q Z a t k tb f1 n1 f2 n2 sa ks S es b ka kb kka kkb K B kt va kv sz rc h0 n0 v_ V_.heap L_ ∧ FrameEnd U_ o_ V_ L_ ({ frames := 2, cells := 0, slots := 0, locals := 40 } : Room).cells ({ frames := 2, cells := 0, slots := 0, locals := 40 } : Room).slots) := by
  refine MetFree.of_bodySF (plainFor_of_name own_pn1) hisR ?_
  intro p e s m args below meth c s₁ Bd hml0 hP hK
  obtain ⟨rfl, hZ, hh⟩ := hP
  have hx := Bd.exec
  have hby := Bd.bytes
  have hml : c.maxLocals = 11 := hml0
  have hown : s.vm.findClass "com/example/vestbook/vestbook/FirstCopies" = some m.cls := findClass_of_methodNamed Bd.named
  have hnm := (name_of_methodNamed Bd.named Bd.method).1
  have X0 : Stand p l e ({ frames := 2, cells := 0, slots := 0, locals := 40 } : Room) s m #[(.ref a), (.ref t), (.int f1), (.int (f1 + n1)), (.int f2), (.int (f2 + n2)), .null] below meth c s₁ [] 0 0 := Stand.of_body Bd
  have e0 : s₁.heap = h0 := by rw [← hh, Bd.state]; rfl
  have N0 := Fr.nil n0
  refine own_begin (own_fk_ef m a t k tb f1 n1 f2 n2 sa ks S es b ka kb kka kkb K B kt va kv sz rc) ?_
  show Ends p.tables e below (s₁.setTop (mkF m 0 #[.val (.ref a), .val (.ref t), .val (.int f1), .val (.int (f1 + n1)), .val (.int f2), .val (.int (f2 + n2)), .val .null, .unset, .unset, .unset, .unset] [])) _
  have Kr0 : Keep h0 h0 [a, sa, ka, kb, va] := Keep.refl h0 _
  have sz0 : 0 ≤ sz.toInt := by omega
  have sz2 : sz.toInt ≤ 2 := by omega
  have BB1 := B1
  have BB2 := B2
  obtain ⟨-, -, a0_, a2_⟩ := BB1
  obtain ⟨-, -, b0_, b2_⟩ := BB2
  have kp1 := own_kp1 sz0 sz2 kt0 kt8 a0_ a2_ b0_ b2_
  have kp2 := own_kp2 sz0 sz2
  have ktn := own_add1 kt0 (by omega) a0_ (by omega)
  have kq1 := own_kp3 (d := kt) (m := (64 : Int32)) B1 kt0 (by omega) (by decide)
  have kq2 := own_kp3 (d := kt + n1) (m := (64 : Int32)) B2 (by omega) (by omega) (by decide)
  refine s_iconst (pc' := 1) X0.here hx (v := (2 : Int32)) (hb hby own_d10_0) rfl rfl ?_
  refine s_aloadN (pc' := 2) X0.here hx (hb hby own_d10_1) rfl rfl rfl ?_
  refine s_getF (pc' := 5) X0 hx hZ hown (host := "") (Or.inl (hw _ (List.mem_of_getElem? (i := 34) rfl))) Via.refl e0 F_size (hb hby own_d10_2) rfl fun T1 X1 e1 => ?_
  refine s_iconst (pc' := 6) X1.here hx (v := (1 : Int32)) (hb hby own_d10_5) rfl rfl ?_
  refine s_iadd (pc' := 7) X1.here hx (hb hby own_d10_6) rfl ?_
  refine s_imul (pc' := 8) X1.here hx (hb hby own_d10_7) rfl ?_
  refine s_iconst (pc' := 9) X1.here hx (v := (1 : Int32)) (hb hby own_d10_8) rfl rfl ?_
  refine s_aloadN (pc' := 10) X1.here hx (hb hby own_d10_9) rfl rfl rfl ?_
  refine s_getF (pc' := 13) X1 hx hZ hown (host := "") (Or.inl (hw _ (List.mem_of_getElem? (i := 17) rfl))) Via.refl e1 F_bits (hb hby own_d10_10) rfl fun T2 X2 e2 => ?_
  refine s_ishl (pc' := 14) X2.here hx (hb hby own_d10_13) rfl ?_
  have hk3 : ¬ (((1 : Int32) <<< ((6 : Int32) &&& 31)) < ((2 : Int32) * (sz + (1 : Int32)))) := kp1.1
  refine s_icmpYes (pc' := 21) X2.here hx (hb hby own_d10_14) (flt hk3).2.2.2 (by decide) (by decide) ?_
  refine s_aloadN (pc' := 22) X2.here hx (hb hby own_d10_21) rfl rfl rfl ?_
  refine s_getF (pc' := 25) X2 hx hZ hown (host := "") (Or.inl (hw _ (List.mem_of_getElem? (i := 34) rfl))) Via.refl e2 F_size (hb hby own_d10_22) rfl fun T4 X4 e4 => ?_
  refine s_aloadN (pc' := 26) X4.here hx (hb hby own_d10_25) rfl rfl rfl ?_
  refine s_getF (pc' := 29) X4 hx hZ hown (host := "") (Or.inl (hw _ (List.mem_of_getElem? (i := 25) rfl))) Via.refl e4 F_va (hb hby own_d10_26) rfl fun T5 X5 e5 => ?_
  refine s_arraylength (pc' := 30) X5 hx hZ e5 V_va (hb hby own_d10_29) rfl ?_
  have hk6 : ¬ (sz = (64 : Int32)) := kp1.2.1
  refine s_icmpYes (pc' := 69) X5.here hx (hb hby own_d10_30) (feq hk6).2 (by decide) (by decide) ?_
  refine s_iloadN (pc' := 70) X5.here hx (hb hby own_d10_69) rfl rfl ?_
  refine s_iloadN (pc' := 71) X5.here hx (hb hby own_d10_70) rfl rfl ?_
  refine s_isub (pc' := 72) X5.here hx (hb hby own_d10_71) rfl ?_
  refine s_istore (pc' := 74) X5.here hx (l' := #[.val (.ref a), .val (.ref t), .val (.int f1), .val (.int (f1 + n1)), .val (.int f2), .val (.int (f2 + n2)), .val .null, .val (.int ((f1 + n1) - f1)), .unset, .unset, .unset]) (hb hby own_d10_72) rfl rfl ?_
  rw [own_sub1 B1]
  refine s_iload (pc' := 76) X5.here hx (hb hby own_d10_74) rfl rfl ?_
  refine s_iload (pc' := 78) X5.here hx (hb hby own_d10_76) rfl rfl ?_
  refine s_isub (pc' := 79) X5.here hx (hb hby own_d10_78) rfl ?_
  refine s_istore (pc' := 81) X5.here hx (l' := #[.val (.ref a), .val (.ref t), .val (.int f1), .val (.int (f1 + n1)), .val (.int f2), .val (.int (f2 + n2)), .val .null, .val (.int n1), .val (.int ((f2 + n2) - f2)), .unset, .unset]) (hb hby own_d10_79) rfl rfl ?_
  rw [own_sub1 B2]
  refine s_aloadN (pc' := 82) X5.here hx (hb hby own_d10_81) rfl rfl rfl ?_
  refine s_getF (pc' := 85) X5 hx hZ hown (host := "") (Or.inl (hw _ (List.mem_of_getElem? (i := 59) rfl))) Via.refl e5 F_kt (hb hby own_d10_82) rfl fun T7 X7 e7 => ?_
  refine s_iload (pc' := 87) X7.here hx (hb hby own_d10_85) rfl rfl ?_
  refine s_iadd (pc' := 88) X7.here hx (hb hby own_d10_87) rfl ?_
  refine s_iload (pc' := 90) X7.here hx (hb hby own_d10_88) rfl rfl ?_
  refine s_iadd (pc' := 91) X7.here hx (hb hby own_d10_90) rfl ?_
  refine s_aloadN (pc' := 92) X7.here hx (hb hby own_d10_91) rfl rfl rfl ?_
  refine s_getF (pc' := 95) X7 hx hZ hown (host := "") (Or.inl (hw _ (List.mem_of_getElem? (i := 19) rfl))) Via.refl e7 F_kb (hb hby own_d10_92) rfl fun T8 X8 e8 => ?_
  refine s_arraylength (pc' := 96) X8 hx hZ e8 V_kb (hb hby own_d10_95) rfl ?_
  have hk9 : ¬ ((64 : Int32) < ((kt + n1) + n2)) := kp1.2.2
  refine s_icmpYes (pc' := 122) X8.here hx (hb hby own_d10_96) (flt hk9).2.2.2 (by decide) (by decide) ?_
  refine s_aloadN (pc' := 123) X8.here hx (hb hby own_d10_122) rfl rfl rfl ?_
  refine s_getF (pc' := 126) X8 hx hZ hown (host := "") (Or.inl (hw _ (List.mem_of_getElem? (i := 21) rfl))) Via.refl e8 F_keys (hb hby own_d10_123) rfl fun T10 X10 e10 => ?_
  refine s_iconst (pc' := 127) X10.here hx (v := (3 : Int32)) (hb hby own_d10_126) rfl rfl ?_
  refine s_aloadN (pc' := 128) X10.here hx (hb hby own_d10_127) rfl rfl rfl ?_
  refine s_getF (pc' := 131) X10 hx hZ hown (host := "") (Or.inl (hw _ (List.mem_of_getElem? (i := 34) rfl))) Via.refl e10 F_size (hb hby own_d10_128) rfl fun T11 X11 e11 => ?_
  refine s_imul (pc' := 132) X11.here hx (hb hby own_d10_131) rfl ?_
  refine s_aloadN (pc' := 133) X11.here hx (hb hby own_d10_132) rfl rfl rfl ?_
  refine s_getF (pc' := 136) X11 hx hZ hown (host := "") (Or.inl (hw _ (List.mem_of_getElem? (i := 59) rfl))) Via.refl e11 F_kt (hb hby own_d10_133) rfl fun T12 X12 e12 => ?_
  refine s_putI (pc' := 137) X12 hx hZ e12 V_ka kp2.1 ((3 : Int32) * sz).toNatClampNeg rfl (by rw [hKl]; exact kp2.2.2.2.1) (hb hby own_d10_136) rfl fun T13 hp13 X13 e13 W13 Vw13 => ?_
  have V14 : Arv Z hp13 ka kka .int (192 : Int32) (K.set ((3 : Int32) * sz).toNatClampNeg (.int kt)) (.int (0 : Int32)) := Vw13
  have N13 := Fr.snoc X13 N0 g_ka
  have fq15 := F_slots.other W13 (Or.inl ne_a_ka)
  have fq16 := F_bits.other W13 (Or.inl ne_a_ka)
  have fq17 := V_sa.other W13 ne_sa_ka
  have fq18 := E_a.wr W13
  have fq19 := F_keys.other W13 (Or.inl ne_a_ka)
  have fq20 := F_kb.other W13 (Or.inl ne_a_ka)
  have fq21 := V_kb.other W13 (Ne.symm ne_ka_kb)
  have fq22 := V_t.other W13 ne_t_ka
  have fq23 := F_size.other W13 (Or.inl ne_a_ka)
  have fq24 := F_rec.other W13 (Or.inl ne_a_ka)
  have fq25 := F_va.other W13 (Or.inl ne_a_ka)
  have fq26 := F_kt.other W13 (Or.inl ne_a_ka)
  have fq27 := V_va.other W13 (Ne.symm ne_ka_va)
  have Z28 : n0 ≤ hp13.size := Nat.le_trans Z0 (Keep.of_wr W13).1
  have K29 : Keep h0 hp13 [a, sa, ka, kb, va] := Kr0.wr W13 (Or.inl (List.mem_of_getElem? (i := 2) rfl))
  refine s_aloadN (pc' := 138) X13.here hx (hb hby own_d10_137) rfl rfl rfl ?_
  refine s_getF (pc' := 141) X13 hx hZ hown (host := "") (Or.inl (hw _ (List.mem_of_getElem? (i := 21) rfl))) Via.refl e13 fq19 (hb hby own_d10_138) rfl fun T30 X30 e30 => ?_
  refine s_iconst (pc' := 142) X30.here hx (v := (3 : Int32)) (hb hby own_d10_141) rfl rfl ?_
  refine s_aloadN (pc' := 143) X30.here hx (hb hby own_d10_142) rfl rfl rfl ?_
  refine s_getF (pc' := 146) X30 hx hZ hown (host := "") (Or.inl (hw _ (List.mem_of_getElem? (i := 34) rfl))) Via.refl e30 fq23 (hb hby own_d10_143) rfl fun T31 X31 e31 => ?_
  refine s_imul (pc' := 147) X31.here hx (hb hby own_d10_146) rfl ?_
  refine s_iconst (pc' := 148) X31.here hx (v := (1 : Int32)) (hb hby own_d10_147) rfl rfl ?_
  refine s_iadd (pc' := 149) X31.here hx (hb hby own_d10_148) rfl ?_
  refine s_iload (pc' := 151) X31.here hx (hb hby own_d10_149) rfl rfl ?_
  refine s_putI (pc' := 152) X31 hx hZ e31 V14 kp2.2.1 (((3 : Int32) * sz) + (1 : Int32)).toNatClampNeg rfl (by rw [List.length_set]; rw [hKl]; exact kp2.2.2.2.2.1) (hb hby own_d10_151) rfl fun T32 hp32 X32 e32 W32 Vw32 => ?_
  have V33 : Arv Z hp32 ka kka .int (192 : Int32) ((K.set ((3 : Int32) * sz).toNatClampNeg (.int kt)).set (((3 : Int32) * sz) + (1 : Int32)).toNatClampNeg (.int n1)) (.int (0 : Int32)) := Vw32
  have N32 := Fr.snoc X32 N13 g_ka
  have fq34 := fq15.other W32 (Or.inl ne_a_ka)
  have fq35 := fq16.other W32 (Or.inl ne_a_ka)
  have fq36 := fq17.other W32 ne_sa_ka
  have fq37 := fq18.wr W32
  have fq38 := fq19.other W32 (Or.inl ne_a_ka)
  have fq39 := fq20.other W32 (Or.inl ne_a_ka)
  have fq40 := fq21.other W32 (Ne.symm ne_ka_kb)
  have fq41 := fq22.other W32 ne_t_ka
  have fq42 := fq23.other W32 (Or.inl ne_a_ka)
  have fq43 := fq24.other W32 (Or.inl ne_a_ka)
  have fq44 := fq25.other W32 (Or.inl ne_a_ka)
  have fq45 := fq26.other W32 (Or.inl ne_a_ka)
  have fq46 := fq27.other W32 (Ne.symm ne_ka_va)
  have Z47 : n0 ≤ hp32.size := Nat.le_trans Z28 (Keep.of_wr W32).1
  have K48 : Keep h0 hp32 [a, sa, ka, kb, va] := K29.wr W32 (Or.inl (List.mem_of_getElem? (i := 2) rfl))
  refine s_aloadN (pc' := 153) X32.here hx (hb hby own_d10_152) rfl rfl rfl ?_
  refine s_getF (pc' := 156) X32 hx hZ hown (host := "") (Or.inl (hw _ (List.mem_of_getElem? (i := 21) rfl))) Via.refl e32 fq38 (hb hby own_d10_153) rfl fun T49 X49 e49 => ?_
  refine s_iconst (pc' := 157) X49.here hx (v := (3 : Int32)) (hb hby own_d10_156) rfl rfl ?_
  refine s_aloadN (pc' := 158) X49.here hx (hb hby own_d10_157) rfl rfl rfl ?_
  refine s_getF (pc' := 161) X49 hx hZ hown (host := "") (Or.inl (hw _ (List.mem_of_getElem? (i := 34) rfl))) Via.refl e49 fq42 (hb hby own_d10_158) rfl fun T50 X50 e50 => ?_
  refine s_imul (pc' := 162) X50.here hx (hb hby own_d10_161) rfl ?_
  refine s_iconst (pc' := 163) X50.here hx (v := (2 : Int32)) (hb hby own_d10_162) rfl rfl ?_
  refine s_iadd (pc' := 164) X50.here hx (hb hby own_d10_163) rfl ?_
  refine s_iload (pc' := 166) X50.here hx (hb hby own_d10_164) rfl rfl ?_
  refine s_putI (pc' := 167) X50 hx hZ e50 V33 kp2.2.2.1 (((3 : Int32) * sz) + (2 : Int32)).toNatClampNeg rfl (by rw [List.length_set]; rw [List.length_set]; rw [hKl]; exact kp2.2.2.2.2.2.1) (hb hby own_d10_166) rfl fun T51 hp51 X51 e51 W51 Vw51 => ?_
  have V52 : Arv Z hp51 ka kka .int (192 : Int32) (((K.set ((3 : Int32) * sz).toNatClampNeg (.int kt)).set (((3 : Int32) * sz) + (1 : Int32)).toNatClampNeg (.int n1)).set (((3 : Int32) * sz) + (2 : Int32)).toNatClampNeg (.int n2)) (.int (0 : Int32)) := Vw51
  have N51 := Fr.snoc X51 N32 g_ka
  have fq53 := fq34.other W51 (Or.inl ne_a_ka)
  have fq54 := fq35.other W51 (Or.inl ne_a_ka)
  have fq55 := fq36.other W51 ne_sa_ka
  have fq56 := fq37.wr W51
  have fq57 := fq38.other W51 (Or.inl ne_a_ka)
  have fq58 := fq39.other W51 (Or.inl ne_a_ka)
  have fq59 := fq40.other W51 (Ne.symm ne_ka_kb)
  have fq60 := fq41.other W51 ne_t_ka
  have fq61 := fq42.other W51 (Or.inl ne_a_ka)
  have fq62 := fq43.other W51 (Or.inl ne_a_ka)
  have fq63 := fq44.other W51 (Or.inl ne_a_ka)
  have fq64 := fq45.other W51 (Or.inl ne_a_ka)
  have fq65 := fq46.other W51 (Ne.symm ne_ka_va)
  have Z66 : n0 ≤ hp51.size := Nat.le_trans Z47 (Keep.of_wr W51).1
  have K67 : Keep h0 hp51 [a, sa, ka, kb, va] := K48.wr W51 (Or.inl (List.mem_of_getElem? (i := 2) rfl))
  have cl1 : kt.toNatClampNeg + n1.toNatClampNeg ≤ B.length := by rw [hB]; exact kq1.2.2.2.2
  have bl1 : (own_cp B (own_A tb f1.toNatClampNeg n1.toNatClampNeg) kt.toNatClampNeg n1.toNatClampNeg).length = B.length := own_cpl (own_Al _ _ _) cl1
  have cl2 : (kt + n1).toNatClampNeg + n2.toNatClampNeg ≤ (own_cp B (own_A tb f1.toNatClampNeg n1.toNatClampNeg) kt.toNatClampNeg n1.toNatClampNeg).length := by rw [bl1, hB]; exact kq2.2.2.2.2
  refine s_aloadN (pc' := 168) X51.here hx (hb hby own_d10_167) rfl rfl rfl ?_
  refine s_iloadN (pc' := 169) X51.here hx (hb hby own_d10_168) rfl rfl ?_
  refine s_aloadN (pc' := 170) X51.here hx (hb hby own_d10_169) rfl rfl rfl ?_
  refine s_getF (pc' := 173) X51 hx hZ hown (host := "") (Or.inl (hw _ (List.mem_of_getElem? (i := 19) rfl))) Via.refl e51 fq58 (hb hby own_d10_170) rfl fun T68 X68 e68 => ?_
  refine s_aloadN (pc' := 174) X68.here hx (hb hby own_d10_173) rfl rfl rfl ?_
  refine s_getF (pc' := 177) X68 hx hZ hown (host := "") (Or.inl (hw _ (List.mem_of_getElem? (i := 59) rfl))) Via.refl e68 fq64 (hb hby own_d10_174) rfl fun T69 X69 e69 => ?_
  refine s_iload (pc' := 179) X69.here hx (hb hby own_d10_177) rfl rfl ?_
  obtain ⟨T70, hp70, Lc70, X70, e70, N70, Kq70, Vw70, st70⟩ := cpA X69 hx hZ hown (hw _ (List.mem_of_getElem? (i := 61) rfl)) (hw _ (List.mem_of_getElem? (i := 64) rfl)) (hw _ (List.mem_of_getElem? (i := 62) rfl)) (hw _ (List.mem_of_getElem? (i := 63) rfl)) e69 fq60 fq59 (Or.inl ⟨rfl, rfl⟩) kq1.1 kq1.2.1 kq1.2.2.1 kq1.2.2.2.1 kq1.2.2.2.2 rfl cl1 N51 g_kb (g := (mkF m 179 #[.val (.ref a), .val (.ref t), .val (.int f1), .val (.int (f1 + n1)), .val (.int f2), .val (.int (f2 + n2)), .val .null, .val (.int n1), .val (.int n2), .unset, .unset] [(.int n1), (.int kt), (.ref kb), (.int f1), (.ref t)])) rfl (by rw [hml]; rfl) rfl (hb hby own_d10_179) (by decide) (W := 0) (by show 2 * 0 + _ ≤ _; exact Nat.le_of_eq rfl) (by decide)
  refine own_via (st70) ?_
  have fq71 := fq53.keep Kq70 (ninS ne_a_kb nin0)
  have fq72 := fq54.keep Kq70 (ninS ne_a_kb nin0)
  have fq73 := fq55.keep Kq70 (ninS ne_sa_kb nin0)
  have fq74 := fq56.keep Kq70
  have fq75 := fq57.keep Kq70 (ninS ne_a_kb nin0)
  have fq76 := fq58.keep Kq70 (ninS ne_a_kb nin0)
  have fq77 := fq60.keep Kq70 (ninS ne_t_kb nin0)
  have fq78 := fq61.keep Kq70 (ninS ne_a_kb nin0)
  have fq79 := fq62.keep Kq70 (ninS ne_a_kb nin0)
  have fq80 := fq63.keep Kq70 (ninS ne_a_kb nin0)
  have fq81 := fq64.keep Kq70 (ninS ne_a_kb nin0)
  have fq82 := fq65.keep Kq70 (ninS (Ne.symm ne_kb_va) nin0)
  have fq83 := V52.keep Kq70 (ninS ne_ka_kb nin0)
  have Z84 : n0 ≤ hp70.size := Nat.le_trans Z66 Kq70.1
  have K85 : Keep h0 hp70 [a, sa, ka, kb, va] := K67.trans Kq70 (allS (Or.inl (List.mem_of_getElem? (i := 3) rfl)) all0)
  have V86 : Arv Z hp70 kb kkb .byte (64 : Int32) (own_cp B (own_A tb f1.toNatClampNeg n1.toNatClampNeg) kt.toNatClampNeg n1.toNatClampNeg) (.int (0 : Int32)) := Vw70
  show Ends p.tables e below (T70.setTop (mkF m 182 #[.val (.ref a), .val (.ref t), .val (.int f1), .val (.int (f1 + n1)), .val (.int f2), .val (.int (f2 + n2)), .val .null, .val (.int n1), .val (.int n2), .unset, .unset] [])) _
  refine s_aloadN (pc' := 183) X70.here hx (hb hby own_d10_182) rfl rfl rfl ?_
  refine s_iload (pc' := 185) X70.here hx (hb hby own_d10_183) rfl rfl ?_
  refine s_aloadN (pc' := 186) X70.here hx (hb hby own_d10_185) rfl rfl rfl ?_
  refine s_getF (pc' := 189) X70 hx hZ hown (host := "") (Or.inl (hw _ (List.mem_of_getElem? (i := 19) rfl))) Via.refl e70 fq76 (hb hby own_d10_186) rfl fun T87 X87 e87 => ?_
  refine s_aloadN (pc' := 190) X87.here hx (hb hby own_d10_189) rfl rfl rfl ?_
  refine s_getF (pc' := 193) X87 hx hZ hown (host := "") (Or.inl (hw _ (List.mem_of_getElem? (i := 59) rfl))) Via.refl e87 fq81 (hb hby own_d10_190) rfl fun T88 X88 e88 => ?_
  refine s_iload (pc' := 195) X88.here hx (hb hby own_d10_193) rfl rfl ?_
  refine s_iadd (pc' := 196) X88.here hx (hb hby own_d10_195) rfl ?_
  refine s_iload (pc' := 198) X88.here hx (hb hby own_d10_196) rfl rfl ?_
  obtain ⟨T89, hp89, Lc89, X89, e89, N89, Kq89, Vw89, st89⟩ := cpA X88 hx hZ hown (hw _ (List.mem_of_getElem? (i := 61) rfl)) (hw _ (List.mem_of_getElem? (i := 64) rfl)) (hw _ (List.mem_of_getElem? (i := 62) rfl)) (hw _ (List.mem_of_getElem? (i := 63) rfl)) e88 fq77 V86 (Or.inl ⟨rfl, rfl⟩) kq2.1 kq2.2.1 kq2.2.2.1 kq2.2.2.2.1 kq2.2.2.2.2 rfl cl2 N70 g_kb (g := (mkF m 198 #[.val (.ref a), .val (.ref t), .val (.int f1), .val (.int (f1 + n1)), .val (.int f2), .val (.int (f2 + n2)), .val .null, .val (.int n1), .val (.int n2), .unset, .unset] [(.int n2), (.int (kt + n1)), (.ref kb), (.int f2), (.ref t)])) rfl (by rw [hml]; rfl) rfl (hb hby own_d10_198) (by decide) (W := 0) (by show 2 * 0 + _ ≤ _; exact Nat.le_of_eq rfl) (by decide)
  refine own_via (st89) ?_
  have fq90 := fq71.keep Kq89 (ninS ne_a_kb nin0)
  have fq91 := fq72.keep Kq89 (ninS ne_a_kb nin0)
  have fq92 := fq73.keep Kq89 (ninS ne_sa_kb nin0)
  have fq93 := fq74.keep Kq89
  have fq94 := fq75.keep Kq89 (ninS ne_a_kb nin0)
  have fq95 := fq76.keep Kq89 (ninS ne_a_kb nin0)
  have fq96 := fq77.keep Kq89 (ninS ne_t_kb nin0)
  have fq97 := fq78.keep Kq89 (ninS ne_a_kb nin0)
  have fq98 := fq79.keep Kq89 (ninS ne_a_kb nin0)
  have fq99 := fq80.keep Kq89 (ninS ne_a_kb nin0)
  have fq100 := fq81.keep Kq89 (ninS ne_a_kb nin0)
  have fq101 := fq82.keep Kq89 (ninS (Ne.symm ne_kb_va) nin0)
  have fq102 := fq83.keep Kq89 (ninS ne_ka_kb nin0)
  have Z103 : n0 ≤ hp89.size := Nat.le_trans Z84 Kq89.1
  have K104 : Keep h0 hp89 [a, sa, ka, kb, va] := K85.trans Kq89 (allS (Or.inl (List.mem_of_getElem? (i := 3) rfl)) all0)
  have V105 : Arv Z hp89 kb kkb .byte (64 : Int32) (own_cp (own_cp B (own_A tb f1.toNatClampNeg n1.toNatClampNeg) kt.toNatClampNeg n1.toNatClampNeg) (own_A tb f2.toNatClampNeg n2.toNatClampNeg) (kt + n1).toNatClampNeg n2.toNatClampNeg) (.int (0 : Int32)) := Vw89
  show Ends p.tables e below (T89.setTop (mkF m 201 #[.val (.ref a), .val (.ref t), .val (.int f1), .val (.int (f1 + n1)), .val (.int f2), .val (.int (f2 + n2)), .val .null, .val (.int n1), .val (.int n2), .unset, .unset] [])) _
  refine s_aloadN (pc' := 202) X89.here hx (hb hby own_d10_201) rfl rfl rfl ?_
  refine s_dup (pc' := 203) X89.here hx (hb hby own_d10_202) rfl rfl ?_
  refine s_getF (pc' := 206) X89 hx hZ hown (host := "") (Or.inl (hw _ (List.mem_of_getElem? (i := 59) rfl))) Via.refl e89 fq100 (hb hby own_d10_203) rfl fun T106 X106 e106 => ?_
  refine s_iload (pc' := 208) X106.here hx (hb hby own_d10_206) rfl rfl ?_
  refine s_iload (pc' := 210) X106.here hx (hb hby own_d10_208) rfl rfl ?_
  refine s_iadd (pc' := 211) X106.here hx (hb hby own_d10_210) rfl ?_
  refine s_iadd (pc' := 212) X106.here hx (hb hby own_d10_211) rfl ?_
  refine s_putF (pc' := 215) (ty := .int) X106 hx hZ hown (host := "") (Or.inl (hw _ (List.mem_of_getElem? (i := 59) rfl))) Via.refl e106 fq100 fq93 (Or.inl (hw _ (List.mem_of_getElem? (i := 60) rfl))) (hw _ (List.mem_of_getElem? (i := 7) rfl)) (by decide) rfl rfl (hb hby own_d10_212) rfl fun T107 hp107 X107 e107 W107 => ?_
  have N107 := Fr.snoc X107 N89 g_a
  have fq108 := fq90.other W107 (Or.inr (slot_ne (Or.inl (hw _ (List.mem_of_getElem? (i := 16) rfl))) (Or.inl (hw _ (List.mem_of_getElem? (i := 60) rfl))) (by decide) (t := (.array .int)) (t' := .int) (by decide) (by decide)))
  have fq109 := fq91.other W107 (Or.inr (slot_ne (Or.inl (hw _ (List.mem_of_getElem? (i := 18) rfl))) (Or.inl (hw _ (List.mem_of_getElem? (i := 60) rfl))) (by decide) (t := .int) (t' := .int) (by decide) (by decide)))
  have fq110 := fq92.other W107 (Ne.symm ne_a_sa)
  have fq111 := fq93.wr W107
  have fq112 := fq94.other W107 (Or.inr (slot_ne (Or.inl (hw _ (List.mem_of_getElem? (i := 22) rfl))) (Or.inl (hw _ (List.mem_of_getElem? (i := 60) rfl))) (by decide) (t := (.array .int)) (t' := .int) (by decide) (by decide)))
  have fq113 := fq95.other W107 (Or.inr (slot_ne (Or.inl (hw _ (List.mem_of_getElem? (i := 20) rfl))) (Or.inl (hw _ (List.mem_of_getElem? (i := 60) rfl))) (by decide) (t := (.array .byte)) (t' := .int) (by decide) (by decide)))
  have fq114 := fq96.other W107 (Ne.symm ne_a_t)
  have fq115 := fq97.other W107 (Or.inr (slot_ne (Or.inl (hw _ (List.mem_of_getElem? (i := 35) rfl))) (Or.inl (hw _ (List.mem_of_getElem? (i := 60) rfl))) (by decide) (t := .int) (t' := .int) (by decide) (by decide)))
  have fq116 := fq98.other W107 (Or.inr (slot_ne (Or.inl (hw _ (List.mem_of_getElem? (i := 33) rfl))) (Or.inl (hw _ (List.mem_of_getElem? (i := 60) rfl))) (by decide) (t := .int) (t' := .int) (by decide) (by decide)))
  have fq117 := fq99.other W107 (Or.inr (slot_ne (Or.inl (hw _ (List.mem_of_getElem? (i := 26) rfl))) (Or.inl (hw _ (List.mem_of_getElem? (i := 60) rfl))) (by decide) (t := (.array (.object "java/lang/Object"))) (t' := .int) (by decide) (by decide)))
  have fq118 := fq100.same W107
  have fq119 := fq101.other W107 (Ne.symm ne_a_va)
  have fq120 := fq102.other W107 (Ne.symm ne_a_ka)
  have fq121 := V105.other W107 (Ne.symm ne_a_kb)
  have Z122 : n0 ≤ hp107.size := Nat.le_trans Z103 (Keep.of_wr W107).1
  have K123 : Keep h0 hp107 [a, sa, ka, kb, va] := K104.wr W107 (Or.inl (List.mem_of_getElem? (i := 0) rfl))
  refine s_aloadN (pc' := 216) X107.here hx (hb hby own_d10_215) rfl rfl rfl ?_
  refine s_getF (pc' := 219) X107 hx hZ hown (host := "") (Or.inl (hw _ (List.mem_of_getElem? (i := 25) rfl))) Via.refl e107 fq117 (hb hby own_d10_216) rfl fun T124 X124 e124 => ?_
  refine s_aloadN (pc' := 220) X124.here hx (hb hby own_d10_219) rfl rfl rfl ?_
  refine s_getF (pc' := 223) X124 hx hZ hown (host := "") (Or.inl (hw _ (List.mem_of_getElem? (i := 34) rfl))) Via.refl e124 fq115 (hb hby own_d10_220) rfl fun T125 X125 e125 => ?_
  refine s_aload (pc' := 225) X125.here hx (hb hby own_d10_223) rfl rfl rfl ?_
  obtain ⟨cl126, Ar126, qa126, Sa126, Ma126, Ha126, Ga126⟩ := fq119.pad (pad_rep [] .null 64)
  refine s_stN (pc' := 226) X125 hx hZ e125 Ar126 rfl (inb_of Sa126 kp2.2.2.2.2.2.2.1) (hb hby own_d10_225) rfl fun T126 hp126 X126 e126 W126 => ?_
  have V127 : Arv Z hp126 va kv (.object "java/lang/Object") (64 : Int32) [] .null := (Arv.set Ar126 qa126 Sa126 Ma126 Ha126 Ga126 rfl W126 _ rfl (show sz.toNatClampNeg < (List.replicate 64 Value.null).length by rw [List.length_replicate]; exact kp2.2.2.2.2.2.2.2)).pad (fun i_ => by show [].getD i_ Value.null = ((List.replicate 64 Value.null).set _ Value.null).getD i_ Value.null; rw [List.set_replicate_self]; exact (pad_rep [] .null 64 i_).symm)
  have N126 := Fr.snoc X126 N107 g_va
  have fq128 := fq108.other W126 (Or.inl ne_a_va)
  have fq129 := fq109.other W126 (Or.inl ne_a_va)
  have fq130 := fq110.other W126 ne_sa_va
  have fq131 := fq111.wr W126
  have fq132 := fq112.other W126 (Or.inl ne_a_va)
  have fq133 := fq113.other W126 (Or.inl ne_a_va)
  have fq134 := fq114.other W126 ne_t_va
  have fq135 := fq115.other W126 (Or.inl ne_a_va)
  have fq136 := fq116.other W126 (Or.inl ne_a_va)
  have fq137 := fq117.other W126 (Or.inl ne_a_va)
  have fq138 := fq118.other W126 (Or.inl ne_a_va)
  have fq139 := fq120.other W126 ne_ka_va
  have fq140 := fq121.other W126 ne_kb_va
  have Z141 : n0 ≤ hp126.size := Nat.le_trans Z122 (Keep.of_wr W126).1
  have K142 : Keep h0 hp126 [a, sa, ka, kb, va] := K123.wr W126 (Or.inl (List.mem_of_getElem? (i := 4) rfl))
  refine s_aloadN (pc' := 227) X126.here hx (hb hby own_d10_226) rfl rfl rfl ?_
  refine s_iloadN (pc' := 228) X126.here hx (hb hby own_d10_227) rfl rfl ?_
  refine s_iloadN (pc' := 229) X126.here hx (hb hby own_d10_228) rfl rfl ?_
  refine s_aloadN (pc' := 230) X126.here hx (hb hby own_d10_229) rfl rfl rfl ?_
  refine s_iload (pc' := 232) X126.here hx (hb hby own_d10_230) rfl rfl ?_
  refine s_iload (pc' := 234) X126.here hx (hb hby own_d10_232) rfl rfl ?_
  refine s_iconst (pc' := 235) X126.here hx (v := (0 : Int32)) (hb hby own_d10_234) rfl rfl ?_
  refine s_callS (pc' := 238) (W := 3) X126 hx hZ  hown (hw _ (List.mem_of_getElem? (i := 40) rfl)) (hw _ (List.mem_of_getElem? (i := 41) rfl)) (hw _ (List.mem_of_getElem? (i := 8) rfl)) (hw _ (List.mem_of_getElem? (i := 42) rfl)) (by decide) e126 (own_hash l Z a0 hw [] t k tb f2 n2 (0 : Int32) hp126 n0 Z141 fq134 B2) (by rw [hml]; rfl) [(.ref t), (.int f2), (.int (f2 + n2)), (.int (0 : Int32))] [(.int (f1 + n1)), (.int f1), (.ref t)] rfl (lenOf own_pd2 rfl) rfl (Nat.le_of_eq rfl) (by decide) (by decide) (by decide) (by decide) rfl (hb hby own_d10_235) fun T143 v143 Lc143 X143 hQ143 => ?_
  obtain ⟨rfl, Nq143, eh143⟩ := hQ143
  have N143 := Fr.app N126 Nq143
  show Ends p.tables e below (T143.setTop (mkF m 238 #[.val (.ref a), .val (.ref t), .val (.int f1), .val (.int (f1 + n1)), .val (.int f2), .val (.int (f2 + n2)), .val .null, .val (.int n1), .val (.int n2), .unset, .unset] [(.int (own_hs (own_A tb f2.toNatClampNeg n2.toNatClampNeg) (0 : Int32))), (.int (f1 + n1)), (.int f1), (.ref t)])) _
  refine s_callS (pc' := 241) (W := 0) X143 hx hZ  hown (hw _ (List.mem_of_getElem? (i := 40) rfl)) (hw _ (List.mem_of_getElem? (i := 41) rfl)) (hw _ (List.mem_of_getElem? (i := 8) rfl)) (hw _ (List.mem_of_getElem? (i := 42) rfl)) (by decide) eh143 (own_hash l Z a0 hw [] t k tb f1 n1 (own_hs (own_A tb f2.toNatClampNeg n2.toNatClampNeg) (0 : Int32)) hp126 n0 Z141 fq134 B1) (by rw [hml]; rfl) [(.ref t), (.int f1), (.int (f1 + n1)), (.int (own_hs (own_A tb f2.toNatClampNeg n2.toNatClampNeg) (0 : Int32)))] [] rfl (lenOf own_pd2 rfl) rfl (Nat.le_of_eq rfl) (by decide) (by decide) (by decide) (by decide) rfl (hb hby own_d10_238) fun T144 v144 Lc144 X144 hQ144 => ?_
  obtain ⟨rfl, Nq144, eh144⟩ := hQ144
  have N144 := Fr.app N143 Nq144
  show Ends p.tables e below (T144.setTop (mkF m 241 #[.val (.ref a), .val (.ref t), .val (.int f1), .val (.int (f1 + n1)), .val (.int f2), .val (.int (f2 + n2)), .val .null, .val (.int n1), .val (.int n2), .unset, .unset] [(.int (own_hs (own_A tb f1.toNatClampNeg n1.toNatClampNeg) (own_hs (own_A tb f2.toNatClampNeg n2.toNatClampNeg) (0 : Int32))))])) _
  obtain ⟨hq, hhq⟩ : ∃ hq, hq = own_hq (own_A tb f1.toNatClampNeg n1.toNatClampNeg, own_A tb f2.toNatClampNeg n2.toNatClampNeg) := ⟨_, rfl⟩
  rw [show own_hs (own_A tb f1.toNatClampNeg n1.toNatClampNeg) (own_hs (own_A tb f2.toNatClampNeg n2.toNatClampNeg) (0 : Int32)) = hq from hhq.symm]
  refine s_istore (pc' := 243) X144.here hx (l' := #[.val (.ref a), .val (.ref t), .val (.int f1), .val (.int (f1 + n1)), .val (.int f2), .val (.int (f2 + n2)), .val .null, .val (.int n1), .val (.int n2), .val (.int hq), .unset]) (hb hby own_d10_241) rfl rfl ?_
  refine s_aloadN (pc' := 244) X144.here hx (hb hby own_d10_243) rfl rfl rfl ?_
  refine s_iload (pc' := 246) X144.here hx (hb hby own_d10_244) rfl rfl ?_
  refine s_callP (y := (⟨"com/example/vestbook/vestbook/FirstCopies", "freeSlot", "(I)I"⟩ : MethodName)) (zz := (⟨"com/example/vestbook/vestbook/FirstCopies", "numberOf", "([BIIII)I"⟩ : MethodName)) (pc' := 249) (W := 0) X144 hx hZ  rfl hown (hw _ (List.mem_of_getElem? (i := 65) rfl)) (hw _ (List.mem_of_getElem? (i := 67) rfl)) (hw _ (List.mem_of_getElem? (i := 8) rfl)) (hw _ (List.mem_of_getElem? (i := 68) rfl)) (hw _ (List.mem_of_getElem? (i := 30) rfl)) (hw _ (List.mem_of_getElem? (i := 66) rfl)) (by decide) eh144 fq131 (own_fs l Z a0 hw [] a hq sa ks S es b hp126 n0 Z141 fq128 fq129 fq130 fq131 I) (by rw [hml]; rfl) [(.int hq)] [] rfl (lenOf own_pd1 rfl) rfl (Nat.le_of_eq rfl) (by decide) (by decide) (by decide) (by decide) rfl (hb hby own_d10_246) fun T145 v145 Lc145 X145 hQ145 => ?_
  obtain ⟨sp, rfl, Nq145, eh145, ⟨jf, js, jo, jfr⟩⟩ := hQ145
  have N145 := Fr.app N144 Nq145
  show Ends p.tables e below (T145.setTop (mkF m 249 #[.val (.ref a), .val (.ref t), .val (.int f1), .val (.int (f1 + n1)), .val (.int f2), .val (.int (f2 + n2)), .val .null, .val (.int n1), .val (.int n2), .val (.int hq), .unset] [(.int sp)])) _
  have hpq : (own_slot hq).toNatClampNeg = own_p (own_A tb f1.toNatClampNeg n1.toNatClampNeg, own_A tb f2.toNatClampNeg n2.toNatClampNeg) := by rw [hhq]; rfl
  rw [hpq] at js jo jfr
  obtain ⟨sv0, sv1, svN⟩ := own_sv js
  have s2 := own_2 sv0 sv1
  have s2b := own_2b sv0 sv1
  have s2n := own_2n sv0 sv1
  refine s_istore (pc' := 251) X145.here hx (l' := #[.val (.ref a), .val (.ref t), .val (.int f1), .val (.int (f1 + n1)), .val (.int f2), .val (.int (f2 + n2)), .val .null, .val (.int n1), .val (.int n2), .val (.int hq), .val (.int sp)]) (hb hby own_d10_249) rfl rfl ?_
  refine s_aloadN (pc' := 252) X145.here hx (hb hby own_d10_251) rfl rfl rfl ?_
  refine s_getF (pc' := 255) X145 hx hZ hown (host := "") (Or.inl (hw _ (List.mem_of_getElem? (i := 15) rfl))) Via.refl eh145 fq128 (hb hby own_d10_252) rfl fun T146 X146 e146 => ?_
  refine s_iconst (pc' := 256) X146.here hx (v := (2 : Int32)) (hb hby own_d10_255) rfl rfl ?_
  refine s_iload (pc' := 258) X146.here hx (hb hby own_d10_256) rfl rfl ?_
  refine s_imul (pc' := 259) X146.here hx (hb hby own_d10_258) rfl ?_
  refine s_iload (pc' := 261) X146.here hx (hb hby own_d10_259) rfl rfl ?_
  refine s_putI (pc' := 262) X146 hx hZ e146 fq130 s2b.1 ((2 : Int32) * sp).toNatClampNeg rfl (by rw [I.len]; exact s2n.1) (hb hby own_d10_261) rfl fun T147 hp147 X147 e147 W147 Vw147 => ?_
  have V148 : Arv Z hp147 sa ks .int (128 : Int32) (S.set ((2 : Int32) * sp).toNatClampNeg (.int hq)) (.int (0 : Int32)) := Vw147
  have N147 := Fr.snoc X147 N145 g_sa
  have fq149 := fq128.other W147 (Or.inl ne_a_sa)
  have fq150 := fq129.other W147 (Or.inl ne_a_sa)
  have fq151 := fq131.wr W147
  have fq152 := fq132.other W147 (Or.inl ne_a_sa)
  have fq153 := fq133.other W147 (Or.inl ne_a_sa)
  have fq154 := fq134.other W147 ne_t_sa
  have fq155 := fq135.other W147 (Or.inl ne_a_sa)
  have fq156 := fq136.other W147 (Or.inl ne_a_sa)
  have fq157 := fq137.other W147 (Or.inl ne_a_sa)
  have fq158 := fq138.other W147 (Or.inl ne_a_sa)
  have fq159 := fq139.other W147 (Ne.symm ne_sa_ka)
  have fq160 := fq140.other W147 (Ne.symm ne_sa_kb)
  have fq161 := V127.other W147 (Ne.symm ne_sa_va)
  have Z162 : n0 ≤ hp147.size := Nat.le_trans Z141 (Keep.of_wr W147).1
  have K163 : Keep h0 hp147 [a, sa, ka, kb, va] := K142.wr W147 (Or.inl (List.mem_of_getElem? (i := 1) rfl))
  refine s_aloadN (pc' := 263) X147.here hx (hb hby own_d10_262) rfl rfl rfl ?_
  refine s_getF (pc' := 266) X147 hx hZ hown (host := "") (Or.inl (hw _ (List.mem_of_getElem? (i := 15) rfl))) Via.refl e147 fq149 (hb hby own_d10_263) rfl fun T164 X164 e164 => ?_
  refine s_iconst (pc' := 267) X164.here hx (v := (2 : Int32)) (hb hby own_d10_266) rfl rfl ?_
  refine s_iload (pc' := 269) X164.here hx (hb hby own_d10_267) rfl rfl ?_
  refine s_imul (pc' := 270) X164.here hx (hb hby own_d10_269) rfl ?_
  refine s_iconst (pc' := 271) X164.here hx (v := (1 : Int32)) (hb hby own_d10_270) rfl rfl ?_
  refine s_iadd (pc' := 272) X164.here hx (hb hby own_d10_271) rfl ?_
  refine s_aloadN (pc' := 273) X164.here hx (hb hby own_d10_272) rfl rfl rfl ?_
  refine s_getF (pc' := 276) X164 hx hZ hown (host := "") (Or.inl (hw _ (List.mem_of_getElem? (i := 34) rfl))) Via.refl e164 fq155 (hb hby own_d10_273) rfl fun T165 X165 e165 => ?_
  refine s_iconst (pc' := 277) X165.here hx (v := (1 : Int32)) (hb hby own_d10_276) rfl rfl ?_
  refine s_iadd (pc' := 278) X165.here hx (hb hby own_d10_277) rfl ?_
  refine s_putI (pc' := 279) X165 hx hZ e165 V148 s2b.2 (((2 : Int32) * sp) + (1 : Int32)).toNatClampNeg rfl (by rw [List.length_set, I.len]; exact s2n.2) (hb hby own_d10_278) rfl fun T166 hp166 X166 e166 W166 Vw166 => ?_
  have V167 : Arv Z hp166 sa ks .int (128 : Int32) ((S.set ((2 : Int32) * sp).toNatClampNeg (.int hq)).set (((2 : Int32) * sp) + (1 : Int32)).toNatClampNeg (.int (sz + (1 : Int32)))) (.int (0 : Int32)) := Vw166
  have N166 := Fr.snoc X166 N147 g_sa
  have fq168 := fq149.other W166 (Or.inl ne_a_sa)
  have fq169 := fq150.other W166 (Or.inl ne_a_sa)
  have fq170 := fq151.wr W166
  have fq171 := fq152.other W166 (Or.inl ne_a_sa)
  have fq172 := fq153.other W166 (Or.inl ne_a_sa)
  have fq173 := fq154.other W166 ne_t_sa
  have fq174 := fq155.other W166 (Or.inl ne_a_sa)
  have fq175 := fq156.other W166 (Or.inl ne_a_sa)
  have fq176 := fq157.other W166 (Or.inl ne_a_sa)
  have fq177 := fq158.other W166 (Or.inl ne_a_sa)
  have fq178 := fq159.other W166 (Ne.symm ne_sa_ka)
  have fq179 := fq160.other W166 (Ne.symm ne_sa_kb)
  have fq180 := fq161.other W166 (Ne.symm ne_sa_va)
  have Z181 : n0 ≤ hp166.size := Nat.le_trans Z162 (Keep.of_wr W166).1
  have K182 : Keep h0 hp166 [a, sa, ka, kb, va] := K163.wr W166 (Or.inl (List.mem_of_getElem? (i := 1) rfl))
  refine s_aloadN (pc' := 280) X166.here hx (hb hby own_d10_279) rfl rfl rfl ?_
  refine s_aloadN (pc' := 281) X166.here hx (hb hby own_d10_280) rfl rfl rfl ?_
  refine s_getF (pc' := 284) X166 hx hZ hown (host := "") (Or.inl (hw _ (List.mem_of_getElem? (i := 34) rfl))) Via.refl e166 fq174 (hb hby own_d10_281) rfl fun T183 X183 e183 => ?_
  refine s_putF (pc' := 287) (ty := .int) X183 hx hZ hown (host := "") (Or.inl (hw _ (List.mem_of_getElem? (i := 32) rfl))) Via.refl e183 fq175 fq170 (Or.inl (hw _ (List.mem_of_getElem? (i := 33) rfl))) (hw _ (List.mem_of_getElem? (i := 7) rfl)) (by decide) rfl rfl (hb hby own_d10_284) rfl fun T184 hp184 X184 e184 W184 => ?_
  have N184 := Fr.snoc X184 N166 g_a
  have fq185 := fq168.other W184 (Or.inr (slot_ne (Or.inl (hw _ (List.mem_of_getElem? (i := 16) rfl))) (Or.inl (hw _ (List.mem_of_getElem? (i := 33) rfl))) (by decide) (t := (.array .int)) (t' := .int) (by decide) (by decide)))
  have fq186 := fq169.other W184 (Or.inr (slot_ne (Or.inl (hw _ (List.mem_of_getElem? (i := 18) rfl))) (Or.inl (hw _ (List.mem_of_getElem? (i := 33) rfl))) (by decide) (t := .int) (t' := .int) (by decide) (by decide)))
  have fq187 := fq170.wr W184
  have fq188 := fq171.other W184 (Or.inr (slot_ne (Or.inl (hw _ (List.mem_of_getElem? (i := 22) rfl))) (Or.inl (hw _ (List.mem_of_getElem? (i := 33) rfl))) (by decide) (t := (.array .int)) (t' := .int) (by decide) (by decide)))
  have fq189 := fq172.other W184 (Or.inr (slot_ne (Or.inl (hw _ (List.mem_of_getElem? (i := 20) rfl))) (Or.inl (hw _ (List.mem_of_getElem? (i := 33) rfl))) (by decide) (t := (.array .byte)) (t' := .int) (by decide) (by decide)))
  have fq190 := fq173.other W184 (Ne.symm ne_a_t)
  have fq191 := fq174.other W184 (Or.inr (slot_ne (Or.inl (hw _ (List.mem_of_getElem? (i := 35) rfl))) (Or.inl (hw _ (List.mem_of_getElem? (i := 33) rfl))) (by decide) (t := .int) (t' := .int) (by decide) (by decide)))
  have fq192 := fq175.same W184
  have fq193 := fq176.other W184 (Or.inr (slot_ne (Or.inl (hw _ (List.mem_of_getElem? (i := 26) rfl))) (Or.inl (hw _ (List.mem_of_getElem? (i := 33) rfl))) (by decide) (t := (.array (.object "java/lang/Object"))) (t' := .int) (by decide) (by decide)))
  have fq194 := fq177.other W184 (Or.inr (slot_ne (Or.inl (hw _ (List.mem_of_getElem? (i := 60) rfl))) (Or.inl (hw _ (List.mem_of_getElem? (i := 33) rfl))) (by decide) (t := .int) (t' := .int) (by decide) (by decide)))
  have fq195 := fq178.other W184 (Ne.symm ne_a_ka)
  have fq196 := fq179.other W184 (Ne.symm ne_a_kb)
  have fq197 := fq180.other W184 (Ne.symm ne_a_va)
  have fq198 := V167.other W184 (Ne.symm ne_a_sa)
  have Z199 : n0 ≤ hp184.size := Nat.le_trans Z181 (Keep.of_wr W184).1
  have K200 : Keep h0 hp184 [a, sa, ka, kb, va] := K182.wr W184 (Or.inl (List.mem_of_getElem? (i := 0) rfl))
  refine s_aloadN (pc' := 288) X184.here hx (hb hby own_d10_287) rfl rfl rfl ?_
  refine s_dup (pc' := 289) X184.here hx (hb hby own_d10_288) rfl rfl ?_
  refine s_getF (pc' := 292) X184 hx hZ hown (host := "") (Or.inl (hw _ (List.mem_of_getElem? (i := 34) rfl))) Via.refl e184 fq191 (hb hby own_d10_289) rfl fun T201 X201 e201 => ?_
  refine s_iconst (pc' := 293) X201.here hx (v := (1 : Int32)) (hb hby own_d10_292) rfl rfl ?_
  refine s_iadd (pc' := 294) X201.here hx (hb hby own_d10_293) rfl ?_
  refine s_putF (pc' := 297) (ty := .int) X201 hx hZ hown (host := "") (Or.inl (hw _ (List.mem_of_getElem? (i := 34) rfl))) Via.refl e201 fq191 fq187 (Or.inl (hw _ (List.mem_of_getElem? (i := 35) rfl))) (hw _ (List.mem_of_getElem? (i := 7) rfl)) (by decide) rfl rfl (hb hby own_d10_294) rfl fun T202 hp202 X202 e202 W202 => ?_
  have N202 := Fr.snoc X202 N184 g_a
  have fq203 := fq185.other W202 (Or.inr (slot_ne (Or.inl (hw _ (List.mem_of_getElem? (i := 16) rfl))) (Or.inl (hw _ (List.mem_of_getElem? (i := 35) rfl))) (by decide) (t := (.array .int)) (t' := .int) (by decide) (by decide)))
  have fq204 := fq186.other W202 (Or.inr (slot_ne (Or.inl (hw _ (List.mem_of_getElem? (i := 18) rfl))) (Or.inl (hw _ (List.mem_of_getElem? (i := 35) rfl))) (by decide) (t := .int) (t' := .int) (by decide) (by decide)))
  have fq205 := fq187.wr W202
  have fq206 := fq188.other W202 (Or.inr (slot_ne (Or.inl (hw _ (List.mem_of_getElem? (i := 22) rfl))) (Or.inl (hw _ (List.mem_of_getElem? (i := 35) rfl))) (by decide) (t := (.array .int)) (t' := .int) (by decide) (by decide)))
  have fq207 := fq189.other W202 (Or.inr (slot_ne (Or.inl (hw _ (List.mem_of_getElem? (i := 20) rfl))) (Or.inl (hw _ (List.mem_of_getElem? (i := 35) rfl))) (by decide) (t := (.array .byte)) (t' := .int) (by decide) (by decide)))
  have fq208 := fq190.other W202 (Ne.symm ne_a_t)
  have fq209 := fq191.same W202
  have fq210 := fq192.other W202 (Or.inr (slot_ne (Or.inl (hw _ (List.mem_of_getElem? (i := 33) rfl))) (Or.inl (hw _ (List.mem_of_getElem? (i := 35) rfl))) (by decide) (t := .int) (t' := .int) (by decide) (by decide)))
  have fq211 := fq193.other W202 (Or.inr (slot_ne (Or.inl (hw _ (List.mem_of_getElem? (i := 26) rfl))) (Or.inl (hw _ (List.mem_of_getElem? (i := 35) rfl))) (by decide) (t := (.array (.object "java/lang/Object"))) (t' := .int) (by decide) (by decide)))
  have fq212 := fq194.other W202 (Or.inr (slot_ne (Or.inl (hw _ (List.mem_of_getElem? (i := 60) rfl))) (Or.inl (hw _ (List.mem_of_getElem? (i := 35) rfl))) (by decide) (t := .int) (t' := .int) (by decide) (by decide)))
  have fq213 := fq195.other W202 (Ne.symm ne_a_ka)
  have fq214 := fq196.other W202 (Ne.symm ne_a_kb)
  have fq215 := fq197.other W202 (Ne.symm ne_a_va)
  have fq216 := fq198.other W202 (Ne.symm ne_a_sa)
  have Z217 : n0 ≤ hp202.size := Nat.le_trans Z199 (Keep.of_wr W202).1
  have K218 : Keep h0 hp202 [a, sa, ka, kb, va] := K200.wr W202 (Or.inl (List.mem_of_getElem? (i := 0) rfl))
  refine s_aloadN (pc' := 298) X202.here hx (hb hby own_d10_297) rfl rfl rfl ?_
  refine s_getF (pc' := 301) X202 hx hZ hown (host := "") (Or.inl (hw _ (List.mem_of_getElem? (i := 32) rfl))) Via.refl e202 fq210 (hb hby own_d10_298) rfl fun T219 X219 e219 => ?_
  have Ig := own_Igrow I (q := (own_A tb f1.toNatClampNeg n1.toNatClampNeg, own_A tb f2.toNatClampNeg n2.toNatClampNeg)) (j := jf) (P := (own_p (own_A tb f1.toNatClampNeg n1.toNatClampNeg, own_A tb f2.toNatClampNeg n2.toNatClampNeg) + jf) % 64) (m := sz + (1 : Int32)) hl hb3 rfl jo jfr (own_szp hsz hl) hnew
  have Ig' : own_I ((S.set ((2 : Int32) * sp).toNatClampNeg (.int hq)).set (((2 : Int32) * sp) + (1 : Int32)).toNatClampNeg (.int (sz + (1 : Int32)))) (es ++ [(own_A tb f1.toNatClampNeg n1.toNatClampNeg, own_A tb f2.toNatClampNeg n2.toNatClampNeg)]) (2 * b + 1) := by rw [s2.2.2.1, s2.2.2.2, svN, hhq]; exact Ig
  have kq' := own_kt' kt0 kt8 a0_ a2_ b0_ b2_
  have Tg := own_Tgrow (kt' := (kt + (n1 + n2))) (us := own_A tb f1.toNatClampNeg n1.toNatClampNeg) (us' := own_A tb f2.toNatClampNeg n2.toNatClampNeg) Tb hKl hB hl hsz kt0 (Int.le_trans kt8 (by decide)) a0_ a2_ b0_ b2_ kq'.1 (own_Al _ _ _) (own_Al _ _ _)
  obtain ⟨fs, hr, hrun, hended, hW, hsame⟩ := X219.leave (v := some (.int sz)) (fun h => by rw [Bd.returns] at h; cases h)
  refine ⟨_, _, retOut X219 hx Bd.returns rfl (Or.inl ⟨rfl, Or.inl rfl, _, rfl⟩) (hb hby own_d10_301) hr, hrun, hended, _, _, rfl, ?_, ⟨_, rfl⟩, hW, hsame.mono (by decide) (by decide)⟩
  show own_fk_Q Z a t k tb f1 n1 f2 n2 sa ks S es b ka kb kka kkb K B kt va kv sz rc h0 n0 _ T219.heap _
  rw [e219]
  exact ⟨((S.set ((2 : Int32) * sp).toNatClampNeg (.int hq)).set (((2 : Int32) * sp) + (1 : Int32)).toNatClampNeg (.int (sz + (1 : Int32)))), (((K.set ((3 : Int32) * sz).toNatClampNeg (.int kt)).set (((3 : Int32) * sz) + (1 : Int32)).toNatClampNeg (.int n1)).set (((3 : Int32) * sz) + (2 : Int32)).toNatClampNeg (.int n2)), (own_cp (own_cp B (own_A tb f1.toNatClampNeg n1.toNatClampNeg) kt.toNatClampNeg n1.toNatClampNeg) (own_A tb f2.toNatClampNeg n2.toNatClampNeg) (kt + n1).toNatClampNeg n2.toNatClampNeg), (kt + (n1 + n2)), rfl, N202, K218, fq205, fq203, fq204, fq207, fq206, fq211, fq209, fq212, fq210, fq216, fq214, fq213, fq215, Ig', Tg, by simp only [List.length_set]; exact hKl, by rw [own_cpl (own_Al _ _ _) cl2, bl1]; exact hB, kq'.2.1, kq'.2.2⟩
theorem own_d9_0 : decode method_4_code 0 = .ok (.aload_n 0, 1) := by decide +kernel
theorem own_d9_1 : decode method_4_code 1 = .ok (.aload_n 1, 1) := by decide +kernel
theorem own_d9_2 : decode method_4_code 2 = .ok (.aload_n 2, 1) := by decide +kernel
theorem own_d9_3 : decode method_4_code 3 = .ok (.iload_n 3, 1) := by decide +kernel
theorem own_d9_4 : decode method_4_code 4 = .ok (.iaload, 1) := by decide +kernel
theorem own_d9_5 : decode method_4_code 5 = .ok (.aload_n 2, 1) := by decide +kernel
theorem own_d9_6 : decode method_4_code 6 = .ok (.iload_n 3, 1) := by decide +kernel
theorem own_d9_7 : decode method_4_code 7 = .ok (.iaload, 1) := by decide +kernel
theorem own_d9_8 : decode method_4_code 8 = .ok (.aload_n 2, 1) := by decide +kernel
theorem own_d9_9 : decode method_4_code 9 = .ok (.iload_n 3, 1) := by decide +kernel
theorem own_d9_10 : decode method_4_code 10 = .ok (.iconst 1, 1) := by decide +kernel
theorem own_d9_11 : decode method_4_code 11 = .ok (.iadd, 1) := by decide +kernel
theorem own_d9_12 : decode method_4_code 12 = .ok (.iaload, 1) := by decide +kernel
theorem own_d9_13 : decode method_4_code 13 = .ok (.iadd, 1) := by decide +kernel
theorem own_d9_14 : decode method_4_code 14 = .ok (.aload_n 2, 1) := by decide +kernel
theorem own_d9_15 : decode method_4_code 15 = .ok (.iload_n 3, 1) := by decide +kernel
theorem own_d9_16 : decode method_4_code 16 = .ok (.iconst 2, 1) := by decide +kernel
theorem own_d9_17 : decode method_4_code 17 = .ok (.iadd, 1) := by decide +kernel
theorem own_d9_18 : decode method_4_code 18 = .ok (.iaload, 1) := by decide +kernel
theorem own_d9_19 : decode method_4_code 19 = .ok (.aload_n 2, 1) := by decide +kernel
theorem own_d9_20 : decode method_4_code 20 = .ok (.iload_n 3, 1) := by decide +kernel
theorem own_d9_21 : decode method_4_code 21 = .ok (.iconst 2, 1) := by decide +kernel
theorem own_d9_22 : decode method_4_code 22 = .ok (.iadd, 1) := by decide +kernel
theorem own_d9_23 : decode method_4_code 23 = .ok (.iaload, 1) := by decide +kernel
theorem own_d9_24 : decode method_4_code 24 = .ok (.aload_n 2, 1) := by decide +kernel
theorem own_d9_25 : decode method_4_code 25 = .ok (.iload_n 3, 1) := by decide +kernel
theorem own_d9_26 : decode method_4_code 26 = .ok (.iconst 3, 1) := by decide +kernel
theorem own_d9_27 : decode method_4_code 27 = .ok (.iadd, 1) := by decide +kernel
theorem own_d9_28 : decode method_4_code 28 = .ok (.iaload, 1) := by decide +kernel
theorem own_d9_29 : decode method_4_code 29 = .ok (.iadd, 1) := by decide +kernel
theorem own_d9_30 : decode method_4_code 30 = .ok (.aconst_null, 1) := by decide +kernel
theorem own_d9_31 : decode method_4_code 31 = .ok (.invokevirtual 32, 3) := by decide +kernel
theorem own_pd5 : parseMethodDescriptor "([BIIIILjava/lang/Object;)I" = some ⟨[(.array .byte), .int, .int, .int, .int, (.object "java/lang/Object")], some .int⟩ := by decide +kernel
theorem own_d9_34 : decode method_4_code 34 = .ok (.pop, 1) := by decide +kernel
theorem own_d9_35 : decode method_4_code 35 = .ok (.return_, 1) := by decide +kernel
theorem own_lk_ef (m : MethodId) (a : Addr) (t : Addr) (d : Addr) (o : Int32) (k : ClassId) (tb : List Value) (f1 : Int32) (n1 : Int32) (f2 : Int32) (n2 : Int32) (sa : Addr) (ks : ClassId) (S : List Value) (es : List own_K) (b : Nat) (ka : Addr) (kb : Addr) (kka : ClassId) (kkb : ClassId) (K : List Value) (B : List Value) (kt : Int32) (va : Addr) (kv : ClassId) (sz : Int32) (rc : Int32) (kd : ClassId) (ds : List Value) : entryFrame m #[(.ref a), (.ref t), (.ref d), (.int o)] 4 = mkF m 0 #[.val (.ref a), .val (.ref t), .val (.ref d), .val (.int o)] [] := by first | (simp [entryFrame, mkF, argsToLocals, Value.category]; done) | rfl
def own_lk_Q (Z : State) (a : Addr) (t : Addr) (d : Addr) (o : Int32) (k : ClassId) (tb : List Value) (f1 : Int32) (n1 : Int32) (f2 : Int32) (n2 : Int32) (sa : Addr) (ks : ClassId) (S : List Value) (es : List own_K) (b : Nat) (ka : Addr) (kb : Addr) (kka : ClassId) (kkb : ClassId) (K : List Value) (B : List Value) (kt : Int32) (va : Addr) (kv : ClassId) (sz : Int32) (rc : Int32) (kd : ClassId) (ds : List Value) (h0 : Heap) (n0 : Nat) (v : Option Value) (h : Heap) (L : List Loc) : Prop := ∃ S' K' B' kt', v = none ∧ Fr n0 L ∧ Keep h0 h [a, sa, ka, kb, va] ∧ Exa Z h a "com/example/vestbook/vestbook/FirstCopies" ∧ Fld Z h a "com/example/vestbook/vestbook/FirstCopies" "slots" "[I" (.ref sa) ∧ Fld Z h a "com/example/vestbook/vestbook/FirstCopies" "bits" "I" (.int (6 : Int32)) ∧ Fld Z h a "com/example/vestbook/vestbook/FirstCopies" "keyBytes" "[B" (.ref kb) ∧ Fld Z h a "com/example/vestbook/vestbook/FirstCopies" "keys" "[I" (.ref ka) ∧ Fld Z h a "com/example/vestbook/vestbook/FirstCopies" "values" "[Ljava/lang/Object;" (.ref va) ∧ Fld Z h a "com/example/vestbook/vestbook/FirstCopies" "size" "I" (.int (sz + (1 : Int32))) ∧ Fld Z h a "com/example/vestbook/vestbook/FirstCopies" "keyBytesTaken" "I" (.int kt') ∧ Fld Z h a "com/example/vestbook/vestbook/FirstCopies" "recent" "I" (.int sz) ∧ Arv Z h sa ks .int (128 : Int32) S' (.int (0 : Int32)) ∧ Arv Z h kb kkb .byte (64 : Int32) B' (.int (0 : Int32)) ∧ Arv Z h ka kka .int (192 : Int32) K' (.int (0 : Int32)) ∧ Arv Z h va kv (.object "java/lang/Object") (64 : Int32) [] .null ∧ own_I S' (es ++ [(own_A tb f1.toNatClampNeg n1.toNatClampNeg, own_A tb f2.toNatClampNeg n2.toNatClampNeg)]) (2 * b + 1) ∧ own_TB K' B' kt' (es ++ [(own_A tb f1.toNatClampNeg n1.toNatClampNeg, own_A tb f2.toNatClampNeg n2.toNatClampNeg)]) ∧ K'.length = 192 ∧ B'.length = 64 ∧ 0 ≤ kt'.toInt ∧ kt'.toInt ≤ kt.toInt + 4
set_option maxRecDepth 65536 in
set_option maxHeartbeats 40000000 in
theorem own_lk (l : Launch) (Z : State) (a0 : Array Value) (hw : ∀ d ∈ tables_1, d.before a0 Z = true) (ws : List Jvm.Cond) (a : Addr) (t : Addr) (d : Addr) (o : Int32) (k : ClassId) (tb : List Value) (f1 : Int32) (n1 : Int32) (f2 : Int32) (n2 : Int32) (sa : Addr) (ks : ClassId) (S : List Value) (es : List own_K) (b : Nat) (ka : Addr) (kb : Addr) (kka : ClassId) (kkb : ClassId) (K : List Value) (B : List Value) (kt : Int32) (va : Addr) (kv : ClassId) (sz : Int32) (rc : Int32) (kd : ClassId) (ds : List Value) (h0 : Heap) (n0 : Nat) (Z0 : n0 ≤ h0.size) (F_slots : Fld Z h0 a "com/example/vestbook/vestbook/FirstCopies" "slots" "[I" (.ref sa)) (F_bits : Fld Z h0 a "com/example/vestbook/vestbook/FirstCopies" "bits" "I" (.int (6 : Int32))) (V_sa : Arv Z h0 sa ks .int (128 : Int32) S (.int (0 : Int32))) (E_a : Exa Z h0 a "com/example/vestbook/vestbook/FirstCopies") (F_keys : Fld Z h0 a "com/example/vestbook/vestbook/FirstCopies" "keys" "[I" (.ref ka)) (F_kb : Fld Z h0 a "com/example/vestbook/vestbook/FirstCopies" "keyBytes" "[B" (.ref kb)) (V_ka : Arv Z h0 ka kka .int (192 : Int32) K (.int (0 : Int32))) (V_kb : Arv Z h0 kb kkb .byte (64 : Int32) B (.int (0 : Int32))) (F_size : Fld Z h0 a "com/example/vestbook/vestbook/FirstCopies" "size" "I" (.int sz)) (F_rec : Fld Z h0 a "com/example/vestbook/vestbook/FirstCopies" "recent" "I" (.int rc)) (V_t : Arv Z h0 t k .byte (6 : Int32) tb (.int (0 : Int32))) (F_va : Fld Z h0 a "com/example/vestbook/vestbook/FirstCopies" "values" "[Ljava/lang/Object;" (.ref va)) (F_kt : Fld Z h0 a "com/example/vestbook/vestbook/FirstCopies" "keyBytesTaken" "I" (.int kt)) (V_va : Arv Z h0 va kv (.object "java/lang/Object") (64 : Int32) [] .null) (g_a : n0 ≤ a) (g_sa : n0 ≤ sa) (g_ka : n0 ≤ ka) (g_kb : n0 ≤ kb) (g_va : n0 ≤ va) (ne_a_t : a ≠ t) (ne_a_sa : a ≠ sa) (ne_a_ka : a ≠ ka) (ne_a_kb : a ≠ kb) (ne_a_va : a ≠ va) (ne_t_sa : t ≠ sa) (ne_t_ka : t ≠ ka) (ne_t_kb : t ≠ kb) (ne_t_va : t ≠ va) (ne_sa_ka : sa ≠ ka) (ne_sa_kb : sa ≠ kb) (ne_sa_va : sa ≠ va) (ne_ka_kb : ka ≠ kb) (ne_ka_va : ka ≠ va) (ne_kb_va : kb ≠ va) (I : own_I S es b) (Tb : own_TB K B kt es) (hKl : K.length = 192) (hB : B.length = 64) (hl : es.length ≤ 2) (hb3 : b ≤ 3) (hsz : sz.toInt = es.length) (kt0 : 0 ≤ kt.toInt) (kt8 : kt.toInt ≤ 8) (B1 : own_B f1 n1) (B2 : own_B f2 n2) (hnew : ∀ i : Nat, es[i]? ≠ some (own_A tb f1.toNatClampNeg n1.toNatClampNeg, own_A tb f2.toNatClampNeg n2.toNatClampNeg)) (V_d : Arv Z h0 d kd .int (20 : Int32) ds (.int (0 : Int32))) (io0 : ¬ o < 0 ∧ o < (20 : Int32)) (vo0 : ds.getD o.toNatClampNeg (.int (0 : Int32)) = .int f1) (io1 : ¬ (o + (1 : Int32)) < 0 ∧ (o + (1 : Int32)) < (20 : Int32)) (vo1 : ds.getD (o + (1 : Int32)).toNatClampNeg (.int (0 : Int32)) = .int n1) (io2 : ¬ (o + (2 : Int32)) < 0 ∧ (o + (2 : Int32)) < (20 : Int32)) (vo2 : ds.getD (o + (2 : Int32)).toNatClampNeg (.int (0 : Int32)) = .int f2) (io3 : ¬ (o + (3 : Int32)) < 0 ∧ (o + (3 : Int32)) < (20 : Int32)) (vo3 : ds.getD (o + (3 : Int32)).toNatClampNeg (.int (0 : Int32)) = .int n2) :
    MetFree l (⟨"com/example/vestbook/vestbook/FirstCopiesNumberOfPinLaw", "keep", "(Lcom/example/vestbook/vestbook/FirstCopies;[B[II)V"⟩ : MethodName) (head1 (Jvm.Cond.code (⟨"com/example/vestbook/vestbook/FirstCopiesNumberOfPinLaw", "keep", "(Lcom/example/vestbook/vestbook/FirstCopies;[B[II)V"⟩ : MethodName) method_4_code 4 none :: ws) ({ frames := 3, cells := 0, slots := 0, locals := 62 } : Room)) (fun as_ U => as_ = #[(.ref a), (.ref t), (.ref d), (.int o)] ∧ Z.Warmed39 U.vm ∧ U.heap = h0) (fun _ _ _ _ _ => True) (fun _ U_ o_ V_ => ∃ v_ L_, o_ = .returned v_ ∧ own_lk_Q Z a t d o k tb f1 n1 f2 n2 sa ks S es b ka kb kka kkb K B kt va kv sz rc kd ds h0 n0 v_ V_.heap L_ ∧ FrameEnd U_ o_ V_ L_ ({ frames := 3, cells := 0, slots := 0, locals := 62 } : Room).cells ({ frames := 3, cells := 0, slots := 0, locals := 62 } : Room).slots) := by
  refine MetFree.of_bodySF (plainFor_of_name own_pn0) hisR ?_
  intro p e s m args below meth c s₁ Bd hml0 hP hK
  obtain ⟨rfl, hZ, hh⟩ := hP
  have hx := Bd.exec
  have hby := Bd.bytes
  have hml : c.maxLocals = 4 := hml0
  have hown : s.vm.findClass "com/example/vestbook/vestbook/FirstCopiesNumberOfPinLaw" = some m.cls := findClass_of_methodNamed Bd.named
  have hnm := (name_of_methodNamed Bd.named Bd.method).1
  have X0 : Stand p l e ({ frames := 3, cells := 0, slots := 0, locals := 62 } : Room) s m #[(.ref a), (.ref t), (.ref d), (.int o)] below meth c s₁ [] 0 0 := Stand.of_body Bd
  have e0 : s₁.heap = h0 := by rw [← hh, Bd.state]; rfl
  have N0 := Fr.nil n0
  refine own_begin (own_lk_ef m a t d o k tb f1 n1 f2 n2 sa ks S es b ka kb kka kkb K B kt va kv sz rc kd ds) ?_
  show Ends p.tables e below (s₁.setTop (mkF m 0 #[.val (.ref a), .val (.ref t), .val (.ref d), .val (.int o)] [])) _
  have Kr0 : Keep h0 h0 [a, sa, ka, kb, va] := Keep.refl h0 _
  refine s_aloadN (pc' := 1) X0.here hx (hb hby own_d9_0) rfl rfl rfl ?_
  refine s_aloadN (pc' := 2) X0.here hx (hb hby own_d9_1) rfl rfl rfl ?_
  refine s_aloadN (pc' := 3) X0.here hx (hb hby own_d9_2) rfl rfl rfl ?_
  refine s_iloadN (pc' := 4) X0.here hx (hb hby own_d9_3) rfl rfl ?_
  refine s_iaload (pc' := 5) (v := (.int f1)) X0 hx hZ e0 V_d io0 vo0 (hb hby own_d9_4) rfl ?_
  refine s_aloadN (pc' := 6) X0.here hx (hb hby own_d9_5) rfl rfl rfl ?_
  refine s_iloadN (pc' := 7) X0.here hx (hb hby own_d9_6) rfl rfl ?_
  refine s_iaload (pc' := 8) (v := (.int f1)) X0 hx hZ e0 V_d io0 vo0 (hb hby own_d9_7) rfl ?_
  refine s_aloadN (pc' := 9) X0.here hx (hb hby own_d9_8) rfl rfl rfl ?_
  refine s_iloadN (pc' := 10) X0.here hx (hb hby own_d9_9) rfl rfl ?_
  refine s_iconst (pc' := 11) X0.here hx (v := (1 : Int32)) (hb hby own_d9_10) rfl rfl ?_
  refine s_iadd (pc' := 12) X0.here hx (hb hby own_d9_11) rfl ?_
  refine s_iaload (pc' := 13) (v := (.int n1)) X0 hx hZ e0 V_d io1 vo1 (hb hby own_d9_12) rfl ?_
  refine s_iadd (pc' := 14) X0.here hx (hb hby own_d9_13) rfl ?_
  refine s_aloadN (pc' := 15) X0.here hx (hb hby own_d9_14) rfl rfl rfl ?_
  refine s_iloadN (pc' := 16) X0.here hx (hb hby own_d9_15) rfl rfl ?_
  refine s_iconst (pc' := 17) X0.here hx (v := (2 : Int32)) (hb hby own_d9_16) rfl rfl ?_
  refine s_iadd (pc' := 18) X0.here hx (hb hby own_d9_17) rfl ?_
  refine s_iaload (pc' := 19) (v := (.int f2)) X0 hx hZ e0 V_d io2 vo2 (hb hby own_d9_18) rfl ?_
  refine s_aloadN (pc' := 20) X0.here hx (hb hby own_d9_19) rfl rfl rfl ?_
  refine s_iloadN (pc' := 21) X0.here hx (hb hby own_d9_20) rfl rfl ?_
  refine s_iconst (pc' := 22) X0.here hx (v := (2 : Int32)) (hb hby own_d9_21) rfl rfl ?_
  refine s_iadd (pc' := 23) X0.here hx (hb hby own_d9_22) rfl ?_
  refine s_iaload (pc' := 24) (v := (.int f2)) X0 hx hZ e0 V_d io2 vo2 (hb hby own_d9_23) rfl ?_
  refine s_aloadN (pc' := 25) X0.here hx (hb hby own_d9_24) rfl rfl rfl ?_
  refine s_iloadN (pc' := 26) X0.here hx (hb hby own_d9_25) rfl rfl ?_
  refine s_iconst (pc' := 27) X0.here hx (v := (3 : Int32)) (hb hby own_d9_26) rfl rfl ?_
  refine s_iadd (pc' := 28) X0.here hx (hb hby own_d9_27) rfl ?_
  refine s_iaload (pc' := 29) (v := (.int n2)) X0 hx hZ e0 V_d io3 vo3 (hb hby own_d9_28) rfl ?_
  refine s_iadd (pc' := 30) X0.here hx (hb hby own_d9_29) rfl ?_
  refine s_aconstNull (pc' := 31) X0.here hx (hb hby own_d9_30) rfl ?_
  refine s_callV (pc' := 34) (W := 0) X0 hx hZ  hown (hw _ (List.mem_of_getElem? (i := 54) rfl)) (hw _ (List.mem_of_getElem? (i := 55) rfl)) (hw _ (List.mem_of_getElem? (i := 8) rfl)) (hw _ (List.mem_of_getElem? (i := 58) rfl)) (hw _ (List.mem_of_getElem? (i := 57) rfl)) (hw _ (List.mem_of_getElem? (i := 56) rfl)) (by decide) e0 E_a (own_fk l Z a0 hw [] a t k tb f1 n1 f2 n2 sa ks S es b ka kb kka kkb K B kt va kv sz rc h0 n0 Z0 F_slots F_bits V_sa E_a F_keys F_kb V_ka V_kb F_size F_rec V_t F_va F_kt V_va g_a g_sa g_ka g_kb g_va ne_a_t ne_a_sa ne_a_ka ne_a_kb ne_a_va ne_t_sa ne_t_ka ne_t_kb ne_t_va ne_sa_ka ne_sa_kb ne_sa_va ne_ka_kb ne_ka_va ne_kb_va I Tb hKl hB hl hb3 hsz kt0 kt8 B1 B2 hnew) (by rw [hml]; rfl) [(.ref t), (.int f1), (.int (f1 + n1)), (.int f2), (.int (f2 + n2)), .null] [] rfl (lenOf own_pd5 rfl) rfl (Nat.le_of_eq rfl) (by decide) (by decide) (by decide) (by decide) rfl (hb hby own_d9_31) fun T1 v1 Lc1 X1 hQ1 => ?_
  obtain ⟨S', K', B', kt', rfl, Nq1, Kq1, Q0, Q1, Q2, Q3, Q4, Q5, Q6, Q7, Q8, Q9, Q10, Q11, Q12, Q13, Q14, Q15, Q16, Q17, Q18⟩ := hQ1
  have N1 := Fr.app N0 Nq1
  have fq2 := E_a.keep Kq1
  have Z3 : n0 ≤ T1.heap.size := Nat.le_trans Z0 Kq1.1
  have K4 : Keep h0 T1.heap [a, sa, ka, kb, va] := Kr0.trans Kq1 (allS (Or.inl (List.mem_of_getElem? (i := 0) rfl)) (allS (Or.inl (List.mem_of_getElem? (i := 1) rfl)) (allS (Or.inl (List.mem_of_getElem? (i := 2) rfl)) (allS (Or.inl (List.mem_of_getElem? (i := 3) rfl)) (allS (Or.inl (List.mem_of_getElem? (i := 4) rfl)) all0)))))
  show Ends p.tables e below (T1.setTop (mkF m 34 #[.val (.ref a), .val (.ref t), .val (.ref d), .val (.int o)] [(.int sz)])) _
  refine s_pop (pc' := 35) X1.here hx (hb hby own_d9_34) rfl rfl ?_
  obtain ⟨fs, hr, hrun, hended, hW, hsame⟩ := X1.leave (v := none) (fun _ => rfl)
  refine ⟨_, _, X1.returnOut hx Bd.returns (hb hby own_d9_35) hr, hrun, hended, _, _, rfl, ?_, ⟨_, rfl⟩, hW, hsame.mono (by decide) (by decide)⟩
  show own_lk_Q Z a t d o k tb f1 n1 f2 n2 sa ks S es b ka kb kka kkb K B kt va kv sz rc kd ds h0 n0 _ T1.heap _
  exact ⟨S', K', B', kt', rfl, N1, K4, Q0, Q1, Q2, Q3, Q4, Q5, Q6, Q7, Q8, Q9, Q10, Q11, Q12, Q13, Q14, Q15, Q16, Q17, Q18⟩
def own_D (ds : List Value) (o f1 n1 f2 n2 : Int32) : Prop := (¬ o < 0 ∧ o < (20 : Int32)) ∧ (ds.getD o.toNatClampNeg (.int (0 : Int32)) = .int f1) ∧ (¬ (o + (1 : Int32)) < 0 ∧ (o + (1 : Int32)) < (20 : Int32)) ∧ (ds.getD (o + (1 : Int32)).toNatClampNeg (.int (0 : Int32)) = .int n1) ∧ (¬ (o + (2 : Int32)) < 0 ∧ (o + (2 : Int32)) < (20 : Int32)) ∧ (ds.getD (o + (2 : Int32)).toNatClampNeg (.int (0 : Int32)) = .int f2) ∧ (¬ (o + (3 : Int32)) < 0 ∧ (o + (3 : Int32)) < (20 : Int32)) ∧ (ds.getD (o + (3 : Int32)).toNatClampNeg (.int (0 : Int32)) = .int n2) ∧ own_B f1 n1 ∧ own_B f2 n2
theorem own_gd {ds : List Value} {i : Nat} {j : Int32} {v : Value} (hj : j.toNatClampNeg = i) (h : ds.getD i (.int (0 : Int32)) = v) : ds.getD j.toNatClampNeg (.int (0 : Int32)) = v := by rw [hj]; exact h
theorem own_pe {A B C D : List Value} : (A, B) = (C, D) ↔ A = C ∧ B = D := ⟨fun h => ⟨congrArg Prod.fst h, congrArg Prod.snd h⟩, fun h => by rw [h.1, h.2]⟩
def own_st (m : Int32) (k q : own_K) (r r' : Int32) : Prop := (¬ m < 0 ∧ k = q ∧ r' = m) ∨ ((m < 0 ∨ k ≠ q) ∧ r' = r)
def own_ex (k0 k1 k2 q : own_K) (m0 m1 m2 r : Int32) : Prop := ∃ r0 r1, own_st m0 k0 q (-1) r0 ∧ own_st m1 k1 q r0 r1 ∧ own_st m2 k2 q r1 r
theorem own_stY {m r r' : Int32} {k q : own_K} (h : ¬ m < 0) (e : k = q) (s : own_st m k q r r') : r' = m := by
  rcases s with s | ⟨s | s, -⟩
  · exact s.2.2
  · exact absurd s h
  · exact absurd e s
theorem own_stN {m r r' : Int32} {k q : own_K} (h : m < 0) (s : own_st m k q r r') : r' = r := by
  rcases s with s | s
  · exact absurd h s.1
  · exact s.2
theorem own_stX {m r r' : Int32} {k q : own_K} (e : ¬ k = q) (s : own_st m k q r r') : r' = r := by
  rcases s with s | s
  · exact absurd s.2.1 e
  · exact s.2
theorem own_new0 {q : own_K} : ∀ i : Nat, ([] : List own_K)[i]? ≠ some q := fun i h => by simp at h
theorem own_newS {es : List own_K} {k q : own_K} (h : ∀ i : Nat, es[i]? ≠ some q) (hk : ¬ k = q) : ∀ i : Nat, (es ++ [k])[i]? ≠ some q := fun i z => by
  rcases own_app z with z | ⟨-, z⟩
  · exact h i z
  · exact hk z.symm
theorem own_resE {es : List own_K} {q : own_K} {res m : Int32} {i : Nat} (u : ∀ (i i' : Nat) (e : own_K), es[i]? = some e → es[i']? = some e → i = i') (hi : es[i]? = some q) (hm : m.toInt = i) (h : own_res es q res) : m = res := by
  rcases h with ⟨i', h1, h2⟩ | ⟨h1, -⟩
  · have := u _ _ _ h1 hi
    subst this
    exact Int32.toInt_inj.mp (by omega)
  · exact absurd hi (h1 i)
theorem own_resN {es : List own_K} {q : own_K} {res : Int32} (n : ∀ i : Nat, es[i]? ≠ some q) (h : own_res es q res) : -1 = res := by
  rcases h with ⟨i, h1, -⟩ | ⟨-, h2⟩
  · exact absurd h1 (n i)
  · exact h2.symm
theorem own_rex {es : List own_K} (hl : es.length ≤ 3) (q : own_K) : ∃ res : Int32, own_res es q res := by
  by_cases h : ∃ i : Nat, es[i]? = some q
  · obtain ⟨i, h⟩ := h
    have hi := (List.getElem?_eq_some_iff.mp h).1
    have : i = 0 ∨ i = 1 ∨ i = 2 := by omega
    rcases this with rfl | rfl | rfl
    · exact ⟨0, Or.inl ⟨0, h, by decide⟩⟩
    · exact ⟨1, Or.inl ⟨1, h, by decide⟩⟩
    · exact ⟨2, Or.inl ⟨2, h, by decide⟩⟩
  · exact ⟨-1, Or.inr ⟨fun i z => h ⟨i, z⟩, rfl⟩⟩
theorem own_rcB {es : List own_K} {q : own_K} {res rc rc' : Int32} (hl : es.length ≤ 3) (H : own_res es q res) (h : rc' = rc ∨ (rc' = res ∧ 0 ≤ res.toInt)) (r0 : 0 ≤ rc.toInt) (r3 : rc.toInt ≤ 3) : 0 ≤ rc'.toInt ∧ rc'.toInt ≤ 3 := by
  rcases h with h | ⟨h, h0⟩
  · rw [h]; exact ⟨r0, r3⟩
  · rw [h]
    rcases H with ⟨i, h1, h2⟩ | ⟨-, h2⟩
    · have hi := (List.getElem?_eq_some_iff.mp h1).1
      exact ⟨h0, by omega⟩
    · rw [h2] at h0
      exact absurd h0 (by decide)
def own_R (k0 k1 k2 : own_K) (es : List own_K) (m0 m1 m2 : Int32) : Prop := ∀ (q : own_K) (r res : Int32), own_ex k0 k1 k2 q m0 m1 m2 r → own_res es q res → r = res
theorem own_repD (n i : Nat) (v : Value) : (List.replicate n v).getD i v = v := by
  rw [List.getD_eq_getElem?_getD, List.getElem?_replicate]
  split <;> rfl
theorem own_Ibase : own_I (List.replicate 128 (.int (0 : Int32))) [] 0 := by
  refine ⟨fun p hp => ⟨0, 0, own_repD _ _ _, own_repD _ _ _, Or.inl rfl⟩, fun i e h => by simp at h, fun p hp => ⟨0, Nat.le_refl _, own_repD _ _ _⟩, by simp, fun i i' e h => by simp at h, List.length_replicate⟩
theorem own_Tbase (K B : List Value) (kt : Int32) : own_TB K B kt [] := fun i e nu h => by simp at h
theorem own_sz1 {es : List own_K} {q : own_K} {sz : Int32} (h : sz.toInt = es.length) (hl : es.length ≤ 2) : (sz + (1 : Int32)).toInt = ((es ++ [q]).length : Int) := by
  rw [own_szp h hl, List.length_append]
  simp
theorem own_kt4 {x y n m : Int} (h : x ≤ y + 4) (h' : y ≤ n) (hm : n + 4 ≤ m) : x ≤ m := by omega
theorem own_R0 {k0 k1 k2 : own_K} (u : ∀ (i i' : Nat) (e : own_K), ([] : List own_K)[i]? = some e → ([] : List own_K)[i']? = some e → i = i') : own_R k0 k1 k2 ([] : List own_K) (-1) (-1) (-1) := by
  intro q r res ⟨r0, r1, s0, s1, s2⟩ h
  rw [own_stN (by decide) s2]
  rw [own_stN (by decide) s1]
  rw [own_stN (by decide) s0]
  exact own_resN own_new0 h
theorem own_R1 {k0 k1 k2 : own_K} (u : ∀ (i i' : Nat) (e : own_K), (([] : List own_K) ++ [k0])[i]? = some e → (([] : List own_K) ++ [k0])[i']? = some e → i = i') : own_R k0 k1 k2 (([] : List own_K) ++ [k0]) (0) (-1) (-1) := by
  intro q r res ⟨r0, r1, s0, s1, s2⟩ h
  rw [own_stN (by decide) s2]
  rw [own_stN (by decide) s1]
  by_cases e0_ : k0 = q
  · rw [own_stY (by decide) e0_ s0]
    exact own_resE u (i := 0) (congrArg some e0_) (by decide) h
  rw [own_stX e0_ s0]
  exact own_resN (own_newS own_new0 e0_) h
theorem own_R2 {k0 k1 k2 : own_K} (u : ∀ (i i' : Nat) (e : own_K), ((([] : List own_K) ++ [k0]) ++ [k1])[i]? = some e → ((([] : List own_K) ++ [k0]) ++ [k1])[i']? = some e → i = i') : own_R k0 k1 k2 ((([] : List own_K) ++ [k0]) ++ [k1]) (0) (1) (-1) := by
  intro q r res ⟨r0, r1, s0, s1, s2⟩ h
  rw [own_stN (by decide) s2]
  by_cases e1_ : k1 = q
  · rw [own_stY (by decide) e1_ s1]
    exact own_resE u (i := 1) (congrArg some e1_) (by decide) h
  rw [own_stX e1_ s1]
  by_cases e0_ : k0 = q
  · rw [own_stY (by decide) e0_ s0]
    exact own_resE u (i := 0) (congrArg some e0_) (by decide) h
  rw [own_stX e0_ s0]
  exact own_resN (own_newS (own_newS own_new0 e0_) e1_) h
theorem own_R3 {k0 k1 k2 : own_K} (u : ∀ (i i' : Nat) (e : own_K), ((([] : List own_K) ++ [k0]) ++ [k2])[i]? = some e → ((([] : List own_K) ++ [k0]) ++ [k2])[i']? = some e → i = i') : own_R k0 k1 k2 ((([] : List own_K) ++ [k0]) ++ [k2]) (0) (-1) (1) := by
  intro q r res ⟨r0, r1, s0, s1, s2⟩ h
  by_cases e2_ : k2 = q
  · rw [own_stY (by decide) e2_ s2]
    exact own_resE u (i := 1) (congrArg some e2_) (by decide) h
  rw [own_stX e2_ s2]
  rw [own_stN (by decide) s1]
  by_cases e0_ : k0 = q
  · rw [own_stY (by decide) e0_ s0]
    exact own_resE u (i := 0) (congrArg some e0_) (by decide) h
  rw [own_stX e0_ s0]
  exact own_resN (own_newS (own_newS own_new0 e0_) e2_) h
theorem own_R4 {k0 k1 k2 : own_K} (u : ∀ (i i' : Nat) (e : own_K), (((([] : List own_K) ++ [k0]) ++ [k1]) ++ [k2])[i]? = some e → (((([] : List own_K) ++ [k0]) ++ [k1]) ++ [k2])[i']? = some e → i = i') : own_R k0 k1 k2 (((([] : List own_K) ++ [k0]) ++ [k1]) ++ [k2]) (0) (1) (2) := by
  intro q r res ⟨r0, r1, s0, s1, s2⟩ h
  by_cases e2_ : k2 = q
  · rw [own_stY (by decide) e2_ s2]
    exact own_resE u (i := 2) (congrArg some e2_) (by decide) h
  rw [own_stX e2_ s2]
  by_cases e1_ : k1 = q
  · rw [own_stY (by decide) e1_ s1]
    exact own_resE u (i := 1) (congrArg some e1_) (by decide) h
  rw [own_stX e1_ s1]
  by_cases e0_ : k0 = q
  · rw [own_stY (by decide) e0_ s0]
    exact own_resE u (i := 0) (congrArg some e0_) (by decide) h
  rw [own_stX e0_ s0]
  exact own_resN (own_newS (own_newS (own_newS own_new0 e0_) e1_) e2_) h
theorem own_d8_0 : decode method_7_code 0 = .ok (.iconst (-1), 1) := by decide +kernel
theorem own_d8_1 : decode method_7_code 1 = .ok (.istore 4, 2) := by decide +kernel
theorem own_d8_3 : decode method_7_code 3 = .ok (.aload_n 2, 1) := by decide +kernel
theorem own_d8_4 : decode method_7_code 4 = .ok (.iconst 0, 1) := by decide +kernel
theorem own_d8_5 : decode method_7_code 5 = .ok (.iaload, 1) := by decide +kernel
theorem own_d8_6 : decode method_7_code 6 = .ok (.ifCond .lt 18, 3) := by decide +kernel
theorem own_d8_9 : decode method_7_code 9 = .ok (.aload_n 0, 1) := by decide +kernel
theorem own_d8_10 : decode method_7_code 10 = .ok (.aload_n 1, 1) := by decide +kernel
theorem own_d8_11 : decode method_7_code 11 = .ok (.iconst 0, 1) := by decide +kernel
theorem own_d8_12 : decode method_7_code 12 = .ok (.iload_n 3, 1) := by decide +kernel
theorem own_d8_13 : decode method_7_code 13 = .ok (.invokestatic 20, 3) := by decide +kernel
theorem own_pd6 : parseMethodDescriptor "([B[III)Z" = some ⟨[(.array .byte), (.array .int), .int, .int], some .boolean⟩ := by decide +kernel
theorem own_d8_16 : decode method_7_code 16 = .ok (.ifCond .eq 8, 3) := by decide +kernel
theorem own_d8_19 : decode method_7_code 19 = .ok (.aload_n 2, 1) := by decide +kernel
theorem own_d8_20 : decode method_7_code 20 = .ok (.iconst 0, 1) := by decide +kernel
theorem own_d8_21 : decode method_7_code 21 = .ok (.iaload, 1) := by decide +kernel
theorem own_d8_22 : decode method_7_code 22 = .ok (.istore 4, 2) := by decide +kernel
theorem own_d8_24 : decode method_7_code 24 = .ok (.aload_n 2, 1) := by decide +kernel
theorem own_d8_25 : decode method_7_code 25 = .ok (.iconst 1, 1) := by decide +kernel
theorem own_d8_26 : decode method_7_code 26 = .ok (.iaload, 1) := by decide +kernel
theorem own_d8_27 : decode method_7_code 27 = .ok (.ifCond .lt 18, 3) := by decide +kernel
theorem own_d8_30 : decode method_7_code 30 = .ok (.aload_n 0, 1) := by decide +kernel
theorem own_d8_31 : decode method_7_code 31 = .ok (.aload_n 1, 1) := by decide +kernel
theorem own_d8_32 : decode method_7_code 32 = .ok (.iconst 4, 1) := by decide +kernel
theorem own_d8_33 : decode method_7_code 33 = .ok (.iload_n 3, 1) := by decide +kernel
theorem own_d8_34 : decode method_7_code 34 = .ok (.invokestatic 20, 3) := by decide +kernel
theorem own_d8_37 : decode method_7_code 37 = .ok (.ifCond .eq 8, 3) := by decide +kernel
theorem own_d8_40 : decode method_7_code 40 = .ok (.aload_n 2, 1) := by decide +kernel
theorem own_d8_41 : decode method_7_code 41 = .ok (.iconst 1, 1) := by decide +kernel
theorem own_d8_42 : decode method_7_code 42 = .ok (.iaload, 1) := by decide +kernel
theorem own_d8_43 : decode method_7_code 43 = .ok (.istore 4, 2) := by decide +kernel
theorem own_d8_45 : decode method_7_code 45 = .ok (.aload_n 2, 1) := by decide +kernel
theorem own_d8_46 : decode method_7_code 46 = .ok (.iconst 2, 1) := by decide +kernel
theorem own_d8_47 : decode method_7_code 47 = .ok (.iaload, 1) := by decide +kernel
theorem own_d8_48 : decode method_7_code 48 = .ok (.ifCond .lt 19, 3) := by decide +kernel
theorem own_d8_51 : decode method_7_code 51 = .ok (.aload_n 0, 1) := by decide +kernel
theorem own_d8_52 : decode method_7_code 52 = .ok (.aload_n 1, 1) := by decide +kernel
theorem own_d8_53 : decode method_7_code 53 = .ok (.bipush 8, 2) := by decide +kernel
theorem own_d8_55 : decode method_7_code 55 = .ok (.iload_n 3, 1) := by decide +kernel
theorem own_d8_56 : decode method_7_code 56 = .ok (.invokestatic 20, 3) := by decide +kernel
theorem own_d8_59 : decode method_7_code 59 = .ok (.ifCond .eq 8, 3) := by decide +kernel
theorem own_d8_62 : decode method_7_code 62 = .ok (.aload_n 2, 1) := by decide +kernel
theorem own_d8_63 : decode method_7_code 63 = .ok (.iconst 2, 1) := by decide +kernel
theorem own_d8_64 : decode method_7_code 64 = .ok (.iaload, 1) := by decide +kernel
theorem own_d8_65 : decode method_7_code 65 = .ok (.istore 4, 2) := by decide +kernel
theorem own_d8_67 : decode method_7_code 67 = .ok (.iload 4, 2) := by decide +kernel
theorem own_d8_69 : decode method_7_code 69 = .ok (.ireturn, 1) := by decide +kernel
theorem own_exp_ef (m : MethodId) (t : Addr) (d : Addr) (nu : Addr) (o : Int32) (k : ClassId) (tb : List Value) (kd : ClassId) (ds : List Value) (kn : ClassId) (u0 : Int32) (u1 : Int32) (u2 : Int32) (a1 : Int32) (a2 : Int32) (a3 : Int32) (a4 : Int32) (b1 : Int32) (b2 : Int32) (b3 : Int32) (b4 : Int32) (c1 : Int32) (c2 : Int32) (c3 : Int32) (c4 : Int32) (q1 : Int32) (q2 : Int32) (q3 : Int32) (q4 : Int32) : entryFrame m #[(.ref t), (.ref d), (.ref nu), (.int o)] 5 = mkF m 0 #[.val (.ref t), .val (.ref d), .val (.ref nu), .val (.int o), .unset] [] := by first | (simp [entryFrame, mkF, argsToLocals, Value.category]; done) | rfl
def own_exp_Q (Z : State) (t : Addr) (d : Addr) (nu : Addr) (o : Int32) (k : ClassId) (tb : List Value) (kd : ClassId) (ds : List Value) (kn : ClassId) (u0 : Int32) (u1 : Int32) (u2 : Int32) (a1 : Int32) (a2 : Int32) (a3 : Int32) (a4 : Int32) (b1 : Int32) (b2 : Int32) (b3 : Int32) (b4 : Int32) (c1 : Int32) (c2 : Int32) (c3 : Int32) (c4 : Int32) (q1 : Int32) (q2 : Int32) (q3 : Int32) (q4 : Int32) (h0 : Heap) (n0 : Nat) (v : Option Value) (h : Heap) (L : List Loc) : Prop := ∃ r, v = some (.int r) ∧ Fr n0 L ∧ h = h0 ∧ own_ex (own_A tb a1.toNatClampNeg a2.toNatClampNeg, own_A tb a3.toNatClampNeg a4.toNatClampNeg) (own_A tb b1.toNatClampNeg b2.toNatClampNeg, own_A tb b3.toNatClampNeg b4.toNatClampNeg) (own_A tb c1.toNatClampNeg c2.toNatClampNeg, own_A tb c3.toNatClampNeg c4.toNatClampNeg) (own_A tb q1.toNatClampNeg q2.toNatClampNeg, own_A tb q3.toNatClampNeg q4.toNatClampNeg) u0 u1 u2 r
set_option maxRecDepth 65536 in
set_option maxHeartbeats 40000000 in
theorem own_exp (l : Launch) (Z : State) (a0 : Array Value) (hw : ∀ d ∈ tables_1, d.before a0 Z = true) (ws : List Jvm.Cond) (t : Addr) (d : Addr) (nu : Addr) (o : Int32) (k : ClassId) (tb : List Value) (kd : ClassId) (ds : List Value) (kn : ClassId) (u0 : Int32) (u1 : Int32) (u2 : Int32) (a1 : Int32) (a2 : Int32) (a3 : Int32) (a4 : Int32) (b1 : Int32) (b2 : Int32) (b3 : Int32) (b4 : Int32) (c1 : Int32) (c2 : Int32) (c3 : Int32) (c4 : Int32) (q1 : Int32) (q2 : Int32) (q3 : Int32) (q4 : Int32) (h0 : Heap) (n0 : Nat) (Z0 : n0 ≤ h0.size) (V_t : Arv Z h0 t k .byte (6 : Int32) tb (.int (0 : Int32))) (V_d : Arv Z h0 d kd .int (20 : Int32) ds (.int (0 : Int32))) (V_n : Arv Z h0 nu kn .int (3 : Int32) [(.int u0), (.int u1), (.int u2)] (.int (0 : Int32))) (D0 : own_D ds (0 : Int32) a1 a2 a3 a4) (D1 : own_D ds (4 : Int32) b1 b2 b3 b4) (D2 : own_D ds (8 : Int32) c1 c2 c3 c4) (D3 : own_D ds o q1 q2 q3 q4) :
    MetFree l (⟨"com/example/vestbook/vestbook/FirstCopiesNumberOfPinLaw", "expected", "([B[I[II)I"⟩ : MethodName) (head1 (Jvm.Cond.code (⟨"com/example/vestbook/vestbook/FirstCopiesNumberOfPinLaw", "expected", "([B[I[II)I"⟩ : MethodName) method_7_code 5 (some .int) :: ws) ({ frames := 2, cells := 0, slots := 0, locals := 31 } : Room)) (fun as_ U => as_ = #[(.ref t), (.ref d), (.ref nu), (.int o)] ∧ Z.Warmed39 U.vm ∧ U.heap = h0) (fun _ _ _ _ _ => True) (fun _ U_ o_ V_ => ∃ v_ L_, o_ = .returned v_ ∧ own_exp_Q Z t d nu o k tb kd ds kn u0 u1 u2 a1 a2 a3 a4 b1 b2 b3 b4 c1 c2 c3 c4 q1 q2 q3 q4 h0 n0 v_ V_.heap L_ ∧ FrameEnd U_ o_ V_ L_ ({ frames := 2, cells := 0, slots := 0, locals := 31 } : Room).cells ({ frames := 2, cells := 0, slots := 0, locals := 31 } : Room).slots) := by
  refine MetFree.of_bodySF (plainFor_of_name own_pn0) hisR ?_
  intro p e s m args below meth c s₁ Bd hml0 hP hK
  obtain ⟨rfl, hZ, hh⟩ := hP
  have hx := Bd.exec
  have hby := Bd.bytes
  have hml : c.maxLocals = 5 := hml0
  have hown : s.vm.findClass "com/example/vestbook/vestbook/FirstCopiesNumberOfPinLaw" = some m.cls := findClass_of_methodNamed Bd.named
  have hnm := (name_of_methodNamed Bd.named Bd.method).1
  have X0 : Stand p l e ({ frames := 2, cells := 0, slots := 0, locals := 31 } : Room) s m #[(.ref t), (.ref d), (.ref nu), (.int o)] below meth c s₁ [] 0 0 := Stand.of_body Bd
  have e0 : s₁.heap = h0 := by rw [← hh, Bd.state]; rfl
  have N0 := Fr.nil n0
  refine own_begin (own_exp_ef m t d nu o k tb kd ds kn u0 u1 u2 a1 a2 a3 a4 b1 b2 b3 b4 c1 c2 c3 c4 q1 q2 q3 q4) ?_
  show Ends p.tables e below (s₁.setTop (mkF m 0 #[.val (.ref t), .val (.ref d), .val (.ref nu), .val (.int o), .unset] [])) _
  obtain ⟨i0_0, v0_0, i0_1, v0_1, i0_2, v0_2, i0_3, v0_3, Ba0, Bb0⟩ := D0
  obtain ⟨i1_0, v1_0, i1_1, v1_1, i1_2, v1_2, i1_3, v1_3, Ba1, Bb1⟩ := D1
  obtain ⟨i2_0, v2_0, i2_1, v2_1, i2_2, v2_2, i2_3, v2_3, Ba2, Bb2⟩ := D2
  obtain ⟨i3_0, v3_0, i3_1, v3_1, i3_2, v3_2, i3_3, v3_3, Ba3, Bb3⟩ := D3
  refine s_iconst (pc' := 1) X0.here hx (v := (-1 : Int32)) (hb hby own_d8_0) rfl rfl ?_
  refine s_istore (pc' := 3) X0.here hx (l' := #[.val (.ref t), .val (.ref d), .val (.ref nu), .val (.int o), .val (.int (-1 : Int32))]) (hb hby own_d8_1) rfl rfl ?_
  refine own_join (α := State × List Loc × Int32) (fun ⟨TM1, LM1, r0⟩ => TM1.setTop (mkF m 24 #[.val (.ref t), .val (.ref d), .val (.ref nu), .val (.int o), .val (.int r0)] [])) (fun ⟨TM1, LM1, r0⟩ => Stand p l e ({ frames := 2, cells := 0, slots := 0, locals := 31 } : Room) s m #[(.ref t), (.ref d), (.ref nu), (.int o)] below meth c TM1 LM1 0 0 ∧ TM1.heap = h0 ∧ Fr n0 LM1 ∧ own_st u0 (own_A tb a1.toNatClampNeg a2.toNatClampNeg, own_A tb a3.toNatClampNeg a4.toNatClampNeg) (own_A tb q1.toNatClampNeg q2.toNatClampNeg, own_A tb q3.toNatClampNeg q4.toNatClampNeg) (-1 : Int32) r0) (fun key => ?_) ?_
  · refine s_aloadN (pc' := 4) X0.here hx (hb hby own_d8_3) rfl rfl rfl ?_
    refine s_iconst (pc' := 5) X0.here hx (v := (0 : Int32)) (hb hby own_d8_4) rfl rfl ?_
    refine s_iaload (pc' := 6) (v := (.int u0)) X0 hx hZ e0 V_n ⟨by decide, by decide⟩ rfl (hb hby own_d8_5) rfl ?_
    by_cases hu0 : u0 < (0 : Int32)
    · refine s_ifYes (pc' := 24) X0.here hx (hb hby own_d8_6) ((if0 _ _).trans (tlt hu0).1) (by decide) (by decide) ?_
      obtain ⟨LL2, XLL2, NLL2⟩ : ∃ LL, Stand p l e ({ frames := 2, cells := 0, slots := 0, locals := 31 } : Room) s m #[(.ref t), (.ref d), (.ref nu), (.int o)] below meth c s₁ LL 0 0 ∧ Fr n0 LL := ⟨_, X0, N0⟩
      exact key (s₁, LL2, (-1 : Int32)) ⟨XLL2, e0, NLL2, Or.inr ⟨Or.inl hu0, rfl⟩⟩
    · refine s_ifNo (pc' := 9) X0.here hx (hb hby own_d8_6) ((if0 _ _).trans (flt hu0).1) rfl ?_
      refine s_aloadN (pc' := 10) X0.here hx (hb hby own_d8_9) rfl rfl rfl ?_
      refine s_aloadN (pc' := 11) X0.here hx (hb hby own_d8_10) rfl rfl rfl ?_
      refine s_iconst (pc' := 12) X0.here hx (v := (0 : Int32)) (hb hby own_d8_11) rfl rfl ?_
      refine s_iloadN (pc' := 13) X0.here hx (hb hby own_d8_12) rfl rfl ?_
      obtain ⟨g0, g010, hg0⟩ := own_pick (own_A tb a1.toNatClampNeg a2.toNatClampNeg = own_A tb q1.toNatClampNeg q2.toNatClampNeg ∧ own_A tb a3.toNatClampNeg a4.toNatClampNeg = own_A tb q3.toNatClampNeg q4.toNatClampNeg)
      refine s_callS (pc' := 16) (W := 0) X0 hx hZ  hown (hw _ (List.mem_of_getElem? (i := 69) rfl)) (hw _ (List.mem_of_getElem? (i := 70) rfl)) (hw _ (List.mem_of_getElem? (i := 4) rfl)) (hw _ (List.mem_of_getElem? (i := 71) rfl)) (by decide) e0 (own_eqk l Z a0 hw [] t d (0 : Int32) o k tb kd ds a1 a2 a3 a4 q1 q2 q3 q4 g0 h0 n0 Z0 V_t V_d i0_0 v0_0 i0_1 v0_1 i0_2 v0_2 i0_3 v0_3 i3_0 v3_0 i3_1 v3_1 i3_2 v3_2 i3_3 v3_3 Ba0 Bb0 Ba3 Bb3 g010 hg0) (by rw [hml]; rfl) [(.ref t), (.ref d), (.int (0 : Int32)), (.int o)] [] rfl (lenOf own_pd6 rfl) rfl (Nat.le_of_eq rfl) (by decide) (by decide) (by decide) (by decide) rfl (hb hby own_d8_13) fun T3 v3 Lc3 X3 hQ3 => ?_
      obtain ⟨rfl, Nq3, eh3⟩ := hQ3
      have N3 := Fr.app N0 Nq3
      show Ends p.tables e below (T3.setTop (mkF m 16 #[.val (.ref t), .val (.ref d), .val (.ref nu), .val (.int o), .val (.int (-1 : Int32))] [(.int g0)])) _
      by_cases hz0 : g0 = (0 : Int32)
      · refine s_ifYes (pc' := 24) X3.here hx (hb hby own_d8_16) ((if0 _ _).trans (teq hz0).1) (by decide) (by decide) ?_
        have nk0 : ¬ (own_A tb a1.toNatClampNeg a2.toNatClampNeg, own_A tb a3.toNatClampNeg a4.toNatClampNeg) = (own_A tb q1.toNatClampNeg q2.toNatClampNeg, own_A tb q3.toNatClampNeg q4.toNatClampNeg) := fun q_ => absurd (hg0.mpr (own_pe.mp q_)) (by rw [hz0]; decide)
        obtain ⟨LL4, XLL4, NLL4⟩ : ∃ LL, Stand p l e ({ frames := 2, cells := 0, slots := 0, locals := 31 } : Room) s m #[(.ref t), (.ref d), (.ref nu), (.int o)] below meth c T3 LL 0 0 ∧ Fr n0 LL := ⟨_, X3, N3⟩
        exact key (T3, LL4, (-1 : Int32)) ⟨XLL4, eh3, NLL4, Or.inr ⟨Or.inr nk0, rfl⟩⟩
      · refine s_ifNo (pc' := 19) X3.here hx (hb hby own_d8_16) ((if0 _ _).trans (feq hz0).1) rfl ?_
        have yk0 : (own_A tb a1.toNatClampNeg a2.toNatClampNeg, own_A tb a3.toNatClampNeg a4.toNatClampNeg) = (own_A tb q1.toNatClampNeg q2.toNatClampNeg, own_A tb q3.toNatClampNeg q4.toNatClampNeg) := own_pe.mpr (hg0.mp (g010.resolve_left hz0))
        refine s_aloadN (pc' := 20) X3.here hx (hb hby own_d8_19) rfl rfl rfl ?_
        refine s_iconst (pc' := 21) X3.here hx (v := (0 : Int32)) (hb hby own_d8_20) rfl rfl ?_
        refine s_iaload (pc' := 22) (v := (.int u0)) X3 hx hZ eh3 V_n ⟨by decide, by decide⟩ rfl (hb hby own_d8_21) rfl ?_
        refine s_istore (pc' := 24) X3.here hx (l' := #[.val (.ref t), .val (.ref d), .val (.ref nu), .val (.int o), .val (.int u0)]) (hb hby own_d8_22) rfl rfl ?_
        obtain ⟨LL5, XLL5, NLL5⟩ : ∃ LL, Stand p l e ({ frames := 2, cells := 0, slots := 0, locals := 31 } : Room) s m #[(.ref t), (.ref d), (.ref nu), (.int o)] below meth c T3 LL 0 0 ∧ Fr n0 LL := ⟨_, X3, N3⟩
        exact key (T3, LL5, u0) ⟨XLL5, eh3, NLL5, Or.inl ⟨hu0, yk0, rfl⟩⟩
  · rintro ⟨TM1, LM1, r0⟩ ⟨XM1, eM1, NM1, hM0_⟩
    try dsimp only
    show Ends p.tables e below (TM1.setTop (mkF m 24 #[.val (.ref t), .val (.ref d), .val (.ref nu), .val (.int o), .val (.int r0)] [])) _
    refine own_join (α := State × List Loc × Int32) (fun ⟨TM6, LM6, r1⟩ => TM6.setTop (mkF m 45 #[.val (.ref t), .val (.ref d), .val (.ref nu), .val (.int o), .val (.int r1)] [])) (fun ⟨TM6, LM6, r1⟩ => Stand p l e ({ frames := 2, cells := 0, slots := 0, locals := 31 } : Room) s m #[(.ref t), (.ref d), (.ref nu), (.int o)] below meth c TM6 LM6 0 0 ∧ TM6.heap = h0 ∧ Fr n0 LM6 ∧ own_st u1 (own_A tb b1.toNatClampNeg b2.toNatClampNeg, own_A tb b3.toNatClampNeg b4.toNatClampNeg) (own_A tb q1.toNatClampNeg q2.toNatClampNeg, own_A tb q3.toNatClampNeg q4.toNatClampNeg) r0 r1) (fun key => ?_) ?_
    · refine s_aloadN (pc' := 25) XM1.here hx (hb hby own_d8_24) rfl rfl rfl ?_
      refine s_iconst (pc' := 26) XM1.here hx (v := (1 : Int32)) (hb hby own_d8_25) rfl rfl ?_
      refine s_iaload (pc' := 27) (v := (.int u1)) XM1 hx hZ eM1 V_n ⟨by decide, by decide⟩ rfl (hb hby own_d8_26) rfl ?_
      by_cases hu1 : u1 < (0 : Int32)
      · refine s_ifYes (pc' := 45) XM1.here hx (hb hby own_d8_27) ((if0 _ _).trans (tlt hu1).1) (by decide) (by decide) ?_
        obtain ⟨LL7, XLL7, NLL7⟩ : ∃ LL, Stand p l e ({ frames := 2, cells := 0, slots := 0, locals := 31 } : Room) s m #[(.ref t), (.ref d), (.ref nu), (.int o)] below meth c TM1 LL 0 0 ∧ Fr n0 LL := ⟨_, XM1, NM1⟩
        exact key (TM1, LL7, r0) ⟨XLL7, eM1, NLL7, Or.inr ⟨Or.inl hu1, rfl⟩⟩
      · refine s_ifNo (pc' := 30) XM1.here hx (hb hby own_d8_27) ((if0 _ _).trans (flt hu1).1) rfl ?_
        refine s_aloadN (pc' := 31) XM1.here hx (hb hby own_d8_30) rfl rfl rfl ?_
        refine s_aloadN (pc' := 32) XM1.here hx (hb hby own_d8_31) rfl rfl rfl ?_
        refine s_iconst (pc' := 33) XM1.here hx (v := (4 : Int32)) (hb hby own_d8_32) rfl rfl ?_
        refine s_iloadN (pc' := 34) XM1.here hx (hb hby own_d8_33) rfl rfl ?_
        obtain ⟨g1, g011, hg1⟩ := own_pick (own_A tb b1.toNatClampNeg b2.toNatClampNeg = own_A tb q1.toNatClampNeg q2.toNatClampNeg ∧ own_A tb b3.toNatClampNeg b4.toNatClampNeg = own_A tb q3.toNatClampNeg q4.toNatClampNeg)
        refine s_callS (pc' := 37) (W := 0) XM1 hx hZ  hown (hw _ (List.mem_of_getElem? (i := 69) rfl)) (hw _ (List.mem_of_getElem? (i := 70) rfl)) (hw _ (List.mem_of_getElem? (i := 4) rfl)) (hw _ (List.mem_of_getElem? (i := 71) rfl)) (by decide) eM1 (own_eqk l Z a0 hw [] t d (4 : Int32) o k tb kd ds b1 b2 b3 b4 q1 q2 q3 q4 g1 h0 n0 Z0 V_t V_d i1_0 v1_0 i1_1 v1_1 i1_2 v1_2 i1_3 v1_3 i3_0 v3_0 i3_1 v3_1 i3_2 v3_2 i3_3 v3_3 Ba1 Bb1 Ba3 Bb3 g011 hg1) (by rw [hml]; rfl) [(.ref t), (.ref d), (.int (4 : Int32)), (.int o)] [] rfl (lenOf own_pd6 rfl) rfl (Nat.le_of_eq rfl) (by decide) (by decide) (by decide) (by decide) rfl (hb hby own_d8_34) fun T8 v8 Lc8 X8 hQ8 => ?_
        obtain ⟨rfl, Nq8, eh8⟩ := hQ8
        have N8 := Fr.app NM1 Nq8
        show Ends p.tables e below (T8.setTop (mkF m 37 #[.val (.ref t), .val (.ref d), .val (.ref nu), .val (.int o), .val (.int r0)] [(.int g1)])) _
        by_cases hz1 : g1 = (0 : Int32)
        · refine s_ifYes (pc' := 45) X8.here hx (hb hby own_d8_37) ((if0 _ _).trans (teq hz1).1) (by decide) (by decide) ?_
          have nk1 : ¬ (own_A tb b1.toNatClampNeg b2.toNatClampNeg, own_A tb b3.toNatClampNeg b4.toNatClampNeg) = (own_A tb q1.toNatClampNeg q2.toNatClampNeg, own_A tb q3.toNatClampNeg q4.toNatClampNeg) := fun q_ => absurd (hg1.mpr (own_pe.mp q_)) (by rw [hz1]; decide)
          obtain ⟨LL9, XLL9, NLL9⟩ : ∃ LL, Stand p l e ({ frames := 2, cells := 0, slots := 0, locals := 31 } : Room) s m #[(.ref t), (.ref d), (.ref nu), (.int o)] below meth c T8 LL 0 0 ∧ Fr n0 LL := ⟨_, X8, N8⟩
          exact key (T8, LL9, r0) ⟨XLL9, eh8, NLL9, Or.inr ⟨Or.inr nk1, rfl⟩⟩
        · refine s_ifNo (pc' := 40) X8.here hx (hb hby own_d8_37) ((if0 _ _).trans (feq hz1).1) rfl ?_
          have yk1 : (own_A tb b1.toNatClampNeg b2.toNatClampNeg, own_A tb b3.toNatClampNeg b4.toNatClampNeg) = (own_A tb q1.toNatClampNeg q2.toNatClampNeg, own_A tb q3.toNatClampNeg q4.toNatClampNeg) := own_pe.mpr (hg1.mp (g011.resolve_left hz1))
          refine s_aloadN (pc' := 41) X8.here hx (hb hby own_d8_40) rfl rfl rfl ?_
          refine s_iconst (pc' := 42) X8.here hx (v := (1 : Int32)) (hb hby own_d8_41) rfl rfl ?_
          refine s_iaload (pc' := 43) (v := (.int u1)) X8 hx hZ eh8 V_n ⟨by decide, by decide⟩ rfl (hb hby own_d8_42) rfl ?_
          refine s_istore (pc' := 45) X8.here hx (l' := #[.val (.ref t), .val (.ref d), .val (.ref nu), .val (.int o), .val (.int u1)]) (hb hby own_d8_43) rfl rfl ?_
          obtain ⟨LL10, XLL10, NLL10⟩ : ∃ LL, Stand p l e ({ frames := 2, cells := 0, slots := 0, locals := 31 } : Room) s m #[(.ref t), (.ref d), (.ref nu), (.int o)] below meth c T8 LL 0 0 ∧ Fr n0 LL := ⟨_, X8, N8⟩
          exact key (T8, LL10, u1) ⟨XLL10, eh8, NLL10, Or.inl ⟨hu1, yk1, rfl⟩⟩
    · rintro ⟨TM6, LM6, r1⟩ ⟨XM6, eM6, NM6, hM1_⟩
      try dsimp only
      show Ends p.tables e below (TM6.setTop (mkF m 45 #[.val (.ref t), .val (.ref d), .val (.ref nu), .val (.int o), .val (.int r1)] [])) _
      refine own_join (α := State × List Loc × Int32) (fun ⟨TM11, LM11, r2⟩ => TM11.setTop (mkF m 67 #[.val (.ref t), .val (.ref d), .val (.ref nu), .val (.int o), .val (.int r2)] [])) (fun ⟨TM11, LM11, r2⟩ => Stand p l e ({ frames := 2, cells := 0, slots := 0, locals := 31 } : Room) s m #[(.ref t), (.ref d), (.ref nu), (.int o)] below meth c TM11 LM11 0 0 ∧ TM11.heap = h0 ∧ Fr n0 LM11 ∧ own_st u2 (own_A tb c1.toNatClampNeg c2.toNatClampNeg, own_A tb c3.toNatClampNeg c4.toNatClampNeg) (own_A tb q1.toNatClampNeg q2.toNatClampNeg, own_A tb q3.toNatClampNeg q4.toNatClampNeg) r1 r2) (fun key => ?_) ?_
      · refine s_aloadN (pc' := 46) XM6.here hx (hb hby own_d8_45) rfl rfl rfl ?_
        refine s_iconst (pc' := 47) XM6.here hx (v := (2 : Int32)) (hb hby own_d8_46) rfl rfl ?_
        refine s_iaload (pc' := 48) (v := (.int u2)) XM6 hx hZ eM6 V_n ⟨by decide, by decide⟩ rfl (hb hby own_d8_47) rfl ?_
        by_cases hu2 : u2 < (0 : Int32)
        · refine s_ifYes (pc' := 67) XM6.here hx (hb hby own_d8_48) ((if0 _ _).trans (tlt hu2).1) (by decide) (by decide) ?_
          obtain ⟨LL12, XLL12, NLL12⟩ : ∃ LL, Stand p l e ({ frames := 2, cells := 0, slots := 0, locals := 31 } : Room) s m #[(.ref t), (.ref d), (.ref nu), (.int o)] below meth c TM6 LL 0 0 ∧ Fr n0 LL := ⟨_, XM6, NM6⟩
          exact key (TM6, LL12, r1) ⟨XLL12, eM6, NLL12, Or.inr ⟨Or.inl hu2, rfl⟩⟩
        · refine s_ifNo (pc' := 51) XM6.here hx (hb hby own_d8_48) ((if0 _ _).trans (flt hu2).1) rfl ?_
          refine s_aloadN (pc' := 52) XM6.here hx (hb hby own_d8_51) rfl rfl rfl ?_
          refine s_aloadN (pc' := 53) XM6.here hx (hb hby own_d8_52) rfl rfl rfl ?_
          refine s_bipush (pc' := 55) XM6.here hx (v := (8 : Int32)) (hb hby own_d8_53) rfl rfl ?_
          refine s_iloadN (pc' := 56) XM6.here hx (hb hby own_d8_55) rfl rfl ?_
          obtain ⟨g2, g012, hg2⟩ := own_pick (own_A tb c1.toNatClampNeg c2.toNatClampNeg = own_A tb q1.toNatClampNeg q2.toNatClampNeg ∧ own_A tb c3.toNatClampNeg c4.toNatClampNeg = own_A tb q3.toNatClampNeg q4.toNatClampNeg)
          refine s_callS (pc' := 59) (W := 0) XM6 hx hZ  hown (hw _ (List.mem_of_getElem? (i := 69) rfl)) (hw _ (List.mem_of_getElem? (i := 70) rfl)) (hw _ (List.mem_of_getElem? (i := 4) rfl)) (hw _ (List.mem_of_getElem? (i := 71) rfl)) (by decide) eM6 (own_eqk l Z a0 hw [] t d (8 : Int32) o k tb kd ds c1 c2 c3 c4 q1 q2 q3 q4 g2 h0 n0 Z0 V_t V_d i2_0 v2_0 i2_1 v2_1 i2_2 v2_2 i2_3 v2_3 i3_0 v3_0 i3_1 v3_1 i3_2 v3_2 i3_3 v3_3 Ba2 Bb2 Ba3 Bb3 g012 hg2) (by rw [hml]; rfl) [(.ref t), (.ref d), (.int (8 : Int32)), (.int o)] [] rfl (lenOf own_pd6 rfl) rfl (Nat.le_of_eq rfl) (by decide) (by decide) (by decide) (by decide) rfl (hb hby own_d8_56) fun T13 v13 Lc13 X13 hQ13 => ?_
          obtain ⟨rfl, Nq13, eh13⟩ := hQ13
          have N13 := Fr.app NM6 Nq13
          show Ends p.tables e below (T13.setTop (mkF m 59 #[.val (.ref t), .val (.ref d), .val (.ref nu), .val (.int o), .val (.int r1)] [(.int g2)])) _
          by_cases hz2 : g2 = (0 : Int32)
          · refine s_ifYes (pc' := 67) X13.here hx (hb hby own_d8_59) ((if0 _ _).trans (teq hz2).1) (by decide) (by decide) ?_
            have nk2 : ¬ (own_A tb c1.toNatClampNeg c2.toNatClampNeg, own_A tb c3.toNatClampNeg c4.toNatClampNeg) = (own_A tb q1.toNatClampNeg q2.toNatClampNeg, own_A tb q3.toNatClampNeg q4.toNatClampNeg) := fun q_ => absurd (hg2.mpr (own_pe.mp q_)) (by rw [hz2]; decide)
            obtain ⟨LL14, XLL14, NLL14⟩ : ∃ LL, Stand p l e ({ frames := 2, cells := 0, slots := 0, locals := 31 } : Room) s m #[(.ref t), (.ref d), (.ref nu), (.int o)] below meth c T13 LL 0 0 ∧ Fr n0 LL := ⟨_, X13, N13⟩
            exact key (T13, LL14, r1) ⟨XLL14, eh13, NLL14, Or.inr ⟨Or.inr nk2, rfl⟩⟩
          · refine s_ifNo (pc' := 62) X13.here hx (hb hby own_d8_59) ((if0 _ _).trans (feq hz2).1) rfl ?_
            have yk2 : (own_A tb c1.toNatClampNeg c2.toNatClampNeg, own_A tb c3.toNatClampNeg c4.toNatClampNeg) = (own_A tb q1.toNatClampNeg q2.toNatClampNeg, own_A tb q3.toNatClampNeg q4.toNatClampNeg) := own_pe.mpr (hg2.mp (g012.resolve_left hz2))
            refine s_aloadN (pc' := 63) X13.here hx (hb hby own_d8_62) rfl rfl rfl ?_
            refine s_iconst (pc' := 64) X13.here hx (v := (2 : Int32)) (hb hby own_d8_63) rfl rfl ?_
            refine s_iaload (pc' := 65) (v := (.int u2)) X13 hx hZ eh13 V_n ⟨by decide, by decide⟩ rfl (hb hby own_d8_64) rfl ?_
            refine s_istore (pc' := 67) X13.here hx (l' := #[.val (.ref t), .val (.ref d), .val (.ref nu), .val (.int o), .val (.int u2)]) (hb hby own_d8_65) rfl rfl ?_
            obtain ⟨LL15, XLL15, NLL15⟩ : ∃ LL, Stand p l e ({ frames := 2, cells := 0, slots := 0, locals := 31 } : Room) s m #[(.ref t), (.ref d), (.ref nu), (.int o)] below meth c T13 LL 0 0 ∧ Fr n0 LL := ⟨_, X13, N13⟩
            exact key (T13, LL15, u2) ⟨XLL15, eh13, NLL15, Or.inl ⟨hu2, yk2, rfl⟩⟩
      · rintro ⟨TM11, LM11, r2⟩ ⟨XM11, eM11, NM11, hM2_⟩
        try dsimp only
        show Ends p.tables e below (TM11.setTop (mkF m 67 #[.val (.ref t), .val (.ref d), .val (.ref nu), .val (.int o), .val (.int r2)] [])) _
        refine s_iload (pc' := 69) XM11.here hx (hb hby own_d8_67) rfl rfl ?_
        obtain ⟨fs, hr, hrun, hended, hW, hsame⟩ := XM11.leave (v := some (.int r2)) (fun h => by rw [Bd.returns] at h; cases h)
        refine ⟨_, _, retOut XM11 hx Bd.returns rfl (Or.inl ⟨rfl, Or.inl rfl, _, rfl⟩) (hb hby own_d8_69) hr, hrun, hended, _, _, rfl, ?_, ⟨_, rfl⟩, hW, hsame.mono (by decide) (by decide)⟩
        show own_exp_Q Z t d nu o k tb kd ds kn u0 u1 u2 a1 a2 a3 a4 b1 b2 b3 b4 c1 c2 c3 c4 q1 q2 q3 q4 h0 n0 _ TM11.heap _
        rw [eM11]
        exact ⟨r2, rfl, NM11, rfl, ⟨r0, r1, hM0_, hM1_, hM2_⟩⟩
theorem own_pd7 : parseMethodDescriptor "([III)V" = some ⟨[(.array .int), .int, .int], none⟩ := by decide +kernel
theorem own_pd8 : parseMethodDescriptor "()V" = some ⟨[], none⟩ := by decide +kernel
theorem own_pd9 : parseMethodDescriptor "(Lcom/example/vestbook/vestbook/FirstCopies;[B[II)V" = some ⟨[(.object "com/example/vestbook/vestbook/FirstCopies"), (.array .byte), (.array .int), .int], none⟩ := by decide +kernel
theorem own_pd10 : parseMethodDescriptor "([B[I[II)I" = some ⟨[(.array .byte), (.array .int), (.array .int), .int], some .int⟩ := by decide +kernel
theorem own_rm0_ef (m : MethodId) (y0 : Int32) (y1 : Int32) (y2 : Int32) (y3 : Int32) (y4 : Int32) (y5 : Int32) : entryFrame m #[(.int y0), (.int y1), (.int y2), (.int y3), (.int y4), (.int y5)] maxLocals = mkF m 0 #[.val (.int y0), .val (.int y1), .val (.int y2), .val (.int y3), .val (.int y4), .val (.int y5), .unset, .unset, .unset, .unset, .unset, .unset, .unset, .unset, .unset, .unset, .unset, .unset] [] := by first | (simp [entryFrame, mkF, argsToLocals, Value.category, maxLocals]; done) | rfl
def own_rm0_Q (Z : State) (y0 : Int32) (y1 : Int32) (y2 : Int32) (y3 : Int32) (y4 : Int32) (y5 : Int32) (h0 : Heap) (n0 : Nat) (v : Option Value) (h : Heap) (L : List Loc) : Prop := v = some (.int 1) ∧ Fr n0 L
set_option maxRecDepth 65536 in
set_option maxHeartbeats 40000000 in
theorem own_rm0 (l : Launch) (Z : State) (a0 : Array Value) (hw : ∀ d ∈ tables_1, d.before a0 Z = true) (ws : List Jvm.Cond) (y0 : Int32) (y1 : Int32) (y2 : Int32) (y3 : Int32) (y4 : Int32) (y5 : Int32) (h0 : Heap) (n0 : Nat) (Z0 : n0 ≤ h0.size) :
    MetFree l x (head1 (Jvm.Cond.code x code maxLocals ret :: ws) room_1) (fun as_ U => as_ = #[(.int y0), (.int y1), (.int y2), (.int y3), (.int y4), (.int y5)] ∧ Z.Warmed39 U.vm ∧ U.heap = h0) (fun _ _ _ _ _ => True) (fun _ U_ o_ V_ => ∃ v_ L_, o_ = .returned v_ ∧ own_rm0_Q Z y0 y1 y2 y3 y4 y5 h0 n0 v_ V_.heap L_ ∧ FrameEnd U_ o_ V_ L_ room_1.cells room_1.slots) := by
  refine MetFree.of_bodySF (plainFor_of_name own_pn0) hisR ?_
  intro p e s m args below meth c s₁ Bd hml0 hP hK
  obtain ⟨rfl, hZ, hh⟩ := hP
  have hx := Bd.exec
  have hby := Bd.bytes
  have hml : c.maxLocals = 18 := hml0
  have hown : s.vm.findClass "com/example/vestbook/vestbook/FirstCopiesNumberOfPinLaw" = some m.cls := findClass_of_methodNamed Bd.named
  have hnm := (name_of_methodNamed Bd.named Bd.method).1
  have X0 : Stand p l e room_1 s m #[(.int y0), (.int y1), (.int y2), (.int y3), (.int y4), (.int y5)] below meth c s₁ [] 0 0 := Stand.of_body Bd
  have e0 : s₁.heap = h0 := by rw [← hh, Bd.state]; rfl
  have N0 := Fr.nil n0
  refine own_begin (own_rm0_ef m y0 y1 y2 y3 y4 y5) ?_
  show Ends p.tables e below (s₁.setTop (mkF m 0 #[.val (.int y0), .val (.int y1), .val (.int y2), .val (.int y3), .val (.int y4), .val (.int y5), .unset, .unset, .unset, .unset, .unset, .unset, .unset, .unset, .unset, .unset, .unset, .unset] [])) _
  refine s_iloadN (pc' := 1) X0.here hx (hb hby at_0) rfl rfl ?_
  refine s_i2b (pc' := 2) X0.here hx (hb hby at_1) rfl ?_
  refine s_istore (pc' := 4) X0.here hx (l' := #[.val (.int y0), .val (.int y1), .val (.int y2), .val (.int y3), .val (.int y4), .val (.int y5), .val (.int (y0.toInt8.toInt32)), .unset, .unset, .unset, .unset, .unset, .unset, .unset, .unset, .unset, .unset, .unset]) (hb hby at_2) rfl rfl ?_
  refine s_iloadN (pc' := 5) X0.here hx (hb hby at_4) rfl rfl ?_
  refine s_bipush (pc' := 7) X0.here hx (v := (8 : Int32)) (hb hby at_5) rfl rfl ?_
  refine s_ishr (pc' := 8) X0.here hx (hb hby at_7) rfl ?_
  refine s_i2b (pc' := 9) X0.here hx (hb hby at_8) rfl ?_
  refine s_istore (pc' := 11) X0.here hx (l' := #[.val (.int y0), .val (.int y1), .val (.int y2), .val (.int y3), .val (.int y4), .val (.int y5), .val (.int (y0.toInt8.toInt32)), .val (.int ((y0 >>> ((8 : Int32) &&& 31)).toInt8.toInt32)), .unset, .unset, .unset, .unset, .unset, .unset, .unset, .unset, .unset, .unset]) (hb hby at_9) rfl rfl ?_
  refine s_bipush (pc' := 13) X0.here hx (v := (6 : Int32)) (hb hby at_11) rfl rfl ?_
  refine s_newP (pc' := 15) (cap := 6) X0 hx hZ (hw _ (List.mem_of_getElem? (i := 0) rfl)) e0 (hb hby at_13) (by decide) (by decide) (by decide) (by decide) (by decide) rfl fun T1 hp1 X1 e1 ka1 E1 t gq1 A1 => ?_
  have g_t : n0 ≤ t := Nat.le_trans Z0 (Nat.le_of_eq gq1.symm)
  have Z2 : n0 ≤ hp1.size := Nat.le_trans Z0 E1.1
  have V3 : Arv Z hp1 t ka1 .byte (6 : Int32) [(.int (0 : Int32)), (.int (0 : Int32)), (.int (0 : Int32)), (.int (0 : Int32)), (.int (0 : Int32)), (.int (0 : Int32))] (.int (0 : Int32)) := (Arv.new A1 (by decide)).pad (pad_rep [] (.int (0 : Int32)) 6)
  refine s_astore (pc' := 17) X1.here hx (l' := #[.val (.int y0), .val (.int y1), .val (.int y2), .val (.int y3), .val (.int y4), .val (.int y5), .val (.int (y0.toInt8.toInt32)), .val (.int ((y0 >>> ((8 : Int32) &&& 31)).toInt8.toInt32)), .val (.ref t), .unset, .unset, .unset, .unset, .unset, .unset, .unset, .unset, .unset]) (hb hby at_15) rfl rfl rfl ?_
  refine s_aload (pc' := 19) X1.here hx (hb hby at_17) rfl rfl rfl ?_
  refine s_iconst (pc' := 20) X1.here hx (v := (0 : Int32)) (hb hby at_19) rfl rfl ?_
  refine s_iloadN (pc' := 21) X1.here hx (hb hby at_20) rfl rfl ?_
  refine s_bipush (pc' := 23) X1.here hx (v := (16 : Int32)) (hb hby at_21) rfl rfl ?_
  refine s_iushr (pc' := 24) X1.here hx (hb hby at_23) rfl ?_
  refine s_iconst (pc' := 25) X1.here hx (v := (1 : Int32)) (hb hby at_24) rfl rfl ?_
  refine s_iand (pc' := 26) X1.here hx (hb hby at_25) rfl ?_
  refine own_join (α := Int32) (fun z0 => T1.setTop (mkF m 36 #[.val (.int y0), .val (.int y1), .val (.int y2), .val (.int y3), .val (.int y4), .val (.int y5), .val (.int (y0.toInt8.toInt32)), .val (.int ((y0 >>> ((8 : Int32) &&& 31)).toInt8.toInt32)), .val (.ref t), .unset, .unset, .unset, .unset, .unset, .unset, .unset, .unset, .unset] [(.int z0), (.int (0 : Int32)), (.ref t)])) (fun z0 => True) (fun key => ?_) ?_
  · by_cases hb_0 : (((y0.toUInt32 >>> ((16 : Int32) &&& 31).toUInt32).toInt32) &&& (1 : Int32)) = (0 : Int32)
    · refine s_ifYes (pc' := 34) X1.here hx (hb hby at_26) ((if0 _ _).trans (teq hb_0).1) (by decide) (by decide) ?_
      refine s_iload (pc' := 36) X1.here hx (hb hby at_34) rfl rfl ?_
      exact key ((y0.toInt8.toInt32)) trivial
    · refine s_ifNo (pc' := 29) X1.here hx (hb hby at_26) ((if0 _ _).trans (feq hb_0).1) rfl ?_
      refine s_iload (pc' := 31) X1.here hx (hb hby at_29) rfl rfl ?_
      refine s_goto (pc' := 36) X1.here hx (hb hby at_31) (by decide) (by decide) ?_
      exact key (((y0 >>> ((8 : Int32) &&& 31)).toInt8.toInt32)) trivial
  · rintro z0 hz_0
    try dsimp only at hz_0
    try dsimp only
    show Ends p.tables e below (T1.setTop (mkF m 36 #[.val (.int y0), .val (.int y1), .val (.int y2), .val (.int y3), .val (.int y4), .val (.int y5), .val (.int (y0.toInt8.toInt32)), .val (.int ((y0 >>> ((8 : Int32) &&& 31)).toInt8.toInt32)), .val (.ref t), .unset, .unset, .unset, .unset, .unset, .unset, .unset, .unset, .unset] [(.int z0), (.int (0 : Int32)), (.ref t)])) _
    refine s_putB (pc' := 37) X1 hx hZ e1 V3 ⟨by decide, by decide⟩ 0 rfl (Nat.le_of_ble_eq_true rfl) (hb hby at_36) rfl fun T4 hp4 X4 e4 W4 Vw4 => ?_
    have V5 : Arv Z hp4 t ka1 .byte (6 : Int32) [(.int (nar .byte z0)), (.int (0 : Int32)), (.int (0 : Int32)), (.int (0 : Int32)), (.int (0 : Int32)), (.int (0 : Int32))] (.int (0 : Int32)) := Vw4
    have N4 := Fr.snoc X4 N0 g_t
    have Z6 : n0 ≤ hp4.size := Nat.le_trans Z2 (Keep.of_wr W4).1
    refine s_aload (pc' := 39) X4.here hx (hb hby at_37) rfl rfl rfl ?_
    refine s_iconst (pc' := 40) X4.here hx (v := (1 : Int32)) (hb hby at_39) rfl rfl ?_
    refine s_iloadN (pc' := 41) X4.here hx (hb hby at_40) rfl rfl ?_
    refine s_bipush (pc' := 43) X4.here hx (v := (17 : Int32)) (hb hby at_41) rfl rfl ?_
    refine s_iushr (pc' := 44) X4.here hx (hb hby at_43) rfl ?_
    refine s_iconst (pc' := 45) X4.here hx (v := (1 : Int32)) (hb hby at_44) rfl rfl ?_
    refine s_iand (pc' := 46) X4.here hx (hb hby at_45) rfl ?_
    refine own_join (α := Int32) (fun z1 => T4.setTop (mkF m 56 #[.val (.int y0), .val (.int y1), .val (.int y2), .val (.int y3), .val (.int y4), .val (.int y5), .val (.int (y0.toInt8.toInt32)), .val (.int ((y0 >>> ((8 : Int32) &&& 31)).toInt8.toInt32)), .val (.ref t), .unset, .unset, .unset, .unset, .unset, .unset, .unset, .unset, .unset] [(.int z1), (.int (1 : Int32)), (.ref t)])) (fun z1 => True) (fun key => ?_) ?_
    · by_cases hb_1 : (((y0.toUInt32 >>> ((17 : Int32) &&& 31).toUInt32).toInt32) &&& (1 : Int32)) = (0 : Int32)
      · refine s_ifYes (pc' := 54) X4.here hx (hb hby at_46) ((if0 _ _).trans (teq hb_1).1) (by decide) (by decide) ?_
        refine s_iload (pc' := 56) X4.here hx (hb hby at_54) rfl rfl ?_
        exact key ((y0.toInt8.toInt32)) trivial
      · refine s_ifNo (pc' := 49) X4.here hx (hb hby at_46) ((if0 _ _).trans (feq hb_1).1) rfl ?_
        refine s_iload (pc' := 51) X4.here hx (hb hby at_49) rfl rfl ?_
        refine s_goto (pc' := 56) X4.here hx (hb hby at_51) (by decide) (by decide) ?_
        exact key (((y0 >>> ((8 : Int32) &&& 31)).toInt8.toInt32)) trivial
    · rintro z1 hz_1
      try dsimp only at hz_1
      try dsimp only
      show Ends p.tables e below (T4.setTop (mkF m 56 #[.val (.int y0), .val (.int y1), .val (.int y2), .val (.int y3), .val (.int y4), .val (.int y5), .val (.int (y0.toInt8.toInt32)), .val (.int ((y0 >>> ((8 : Int32) &&& 31)).toInt8.toInt32)), .val (.ref t), .unset, .unset, .unset, .unset, .unset, .unset, .unset, .unset, .unset] [(.int z1), (.int (1 : Int32)), (.ref t)])) _
      refine s_putB (pc' := 57) X4 hx hZ e4 V5 ⟨by decide, by decide⟩ 1 rfl (Nat.le_of_ble_eq_true rfl) (hb hby at_56) rfl fun T7 hp7 X7 e7 W7 Vw7 => ?_
      have V8 : Arv Z hp7 t ka1 .byte (6 : Int32) [(.int (nar .byte z0)), (.int (nar .byte z1)), (.int (0 : Int32)), (.int (0 : Int32)), (.int (0 : Int32)), (.int (0 : Int32))] (.int (0 : Int32)) := Vw7
      have N7 := Fr.snoc X7 N4 g_t
      have Z9 : n0 ≤ hp7.size := Nat.le_trans Z6 (Keep.of_wr W7).1
      refine s_aload (pc' := 59) X7.here hx (hb hby at_57) rfl rfl rfl ?_
      refine s_iconst (pc' := 60) X7.here hx (v := (2 : Int32)) (hb hby at_59) rfl rfl ?_
      refine s_iloadN (pc' := 61) X7.here hx (hb hby at_60) rfl rfl ?_
      refine s_bipush (pc' := 63) X7.here hx (v := (18 : Int32)) (hb hby at_61) rfl rfl ?_
      refine s_iushr (pc' := 64) X7.here hx (hb hby at_63) rfl ?_
      refine s_iconst (pc' := 65) X7.here hx (v := (1 : Int32)) (hb hby at_64) rfl rfl ?_
      refine s_iand (pc' := 66) X7.here hx (hb hby at_65) rfl ?_
      refine own_join (α := Int32) (fun z2 => T7.setTop (mkF m 76 #[.val (.int y0), .val (.int y1), .val (.int y2), .val (.int y3), .val (.int y4), .val (.int y5), .val (.int (y0.toInt8.toInt32)), .val (.int ((y0 >>> ((8 : Int32) &&& 31)).toInt8.toInt32)), .val (.ref t), .unset, .unset, .unset, .unset, .unset, .unset, .unset, .unset, .unset] [(.int z2), (.int (2 : Int32)), (.ref t)])) (fun z2 => True) (fun key => ?_) ?_
      · by_cases hb_2 : (((y0.toUInt32 >>> ((18 : Int32) &&& 31).toUInt32).toInt32) &&& (1 : Int32)) = (0 : Int32)
        · refine s_ifYes (pc' := 74) X7.here hx (hb hby at_66) ((if0 _ _).trans (teq hb_2).1) (by decide) (by decide) ?_
          refine s_iload (pc' := 76) X7.here hx (hb hby at_74) rfl rfl ?_
          exact key ((y0.toInt8.toInt32)) trivial
        · refine s_ifNo (pc' := 69) X7.here hx (hb hby at_66) ((if0 _ _).trans (feq hb_2).1) rfl ?_
          refine s_iload (pc' := 71) X7.here hx (hb hby at_69) rfl rfl ?_
          refine s_goto (pc' := 76) X7.here hx (hb hby at_71) (by decide) (by decide) ?_
          exact key (((y0 >>> ((8 : Int32) &&& 31)).toInt8.toInt32)) trivial
      · rintro z2 hz_2
        try dsimp only at hz_2
        try dsimp only
        show Ends p.tables e below (T7.setTop (mkF m 76 #[.val (.int y0), .val (.int y1), .val (.int y2), .val (.int y3), .val (.int y4), .val (.int y5), .val (.int (y0.toInt8.toInt32)), .val (.int ((y0 >>> ((8 : Int32) &&& 31)).toInt8.toInt32)), .val (.ref t), .unset, .unset, .unset, .unset, .unset, .unset, .unset, .unset, .unset] [(.int z2), (.int (2 : Int32)), (.ref t)])) _
        refine s_putB (pc' := 77) X7 hx hZ e7 V8 ⟨by decide, by decide⟩ 2 rfl (Nat.le_of_ble_eq_true rfl) (hb hby at_76) rfl fun T10 hp10 X10 e10 W10 Vw10 => ?_
        have V11 : Arv Z hp10 t ka1 .byte (6 : Int32) [(.int (nar .byte z0)), (.int (nar .byte z1)), (.int (nar .byte z2)), (.int (0 : Int32)), (.int (0 : Int32)), (.int (0 : Int32))] (.int (0 : Int32)) := Vw10
        have N10 := Fr.snoc X10 N7 g_t
        have Z12 : n0 ≤ hp10.size := Nat.le_trans Z9 (Keep.of_wr W10).1
        refine s_aload (pc' := 79) X10.here hx (hb hby at_77) rfl rfl rfl ?_
        refine s_iconst (pc' := 80) X10.here hx (v := (3 : Int32)) (hb hby at_79) rfl rfl ?_
        refine s_iloadN (pc' := 81) X10.here hx (hb hby at_80) rfl rfl ?_
        refine s_bipush (pc' := 83) X10.here hx (v := (19 : Int32)) (hb hby at_81) rfl rfl ?_
        refine s_iushr (pc' := 84) X10.here hx (hb hby at_83) rfl ?_
        refine s_iconst (pc' := 85) X10.here hx (v := (1 : Int32)) (hb hby at_84) rfl rfl ?_
        refine s_iand (pc' := 86) X10.here hx (hb hby at_85) rfl ?_
        refine own_join (α := Int32) (fun z3 => T10.setTop (mkF m 96 #[.val (.int y0), .val (.int y1), .val (.int y2), .val (.int y3), .val (.int y4), .val (.int y5), .val (.int (y0.toInt8.toInt32)), .val (.int ((y0 >>> ((8 : Int32) &&& 31)).toInt8.toInt32)), .val (.ref t), .unset, .unset, .unset, .unset, .unset, .unset, .unset, .unset, .unset] [(.int z3), (.int (3 : Int32)), (.ref t)])) (fun z3 => True) (fun key => ?_) ?_
        · by_cases hb_3 : (((y0.toUInt32 >>> ((19 : Int32) &&& 31).toUInt32).toInt32) &&& (1 : Int32)) = (0 : Int32)
          · refine s_ifYes (pc' := 94) X10.here hx (hb hby at_86) ((if0 _ _).trans (teq hb_3).1) (by decide) (by decide) ?_
            refine s_iload (pc' := 96) X10.here hx (hb hby at_94) rfl rfl ?_
            exact key ((y0.toInt8.toInt32)) trivial
          · refine s_ifNo (pc' := 89) X10.here hx (hb hby at_86) ((if0 _ _).trans (feq hb_3).1) rfl ?_
            refine s_iload (pc' := 91) X10.here hx (hb hby at_89) rfl rfl ?_
            refine s_goto (pc' := 96) X10.here hx (hb hby at_91) (by decide) (by decide) ?_
            exact key (((y0 >>> ((8 : Int32) &&& 31)).toInt8.toInt32)) trivial
        · rintro z3 hz_3
          try dsimp only at hz_3
          try dsimp only
          show Ends p.tables e below (T10.setTop (mkF m 96 #[.val (.int y0), .val (.int y1), .val (.int y2), .val (.int y3), .val (.int y4), .val (.int y5), .val (.int (y0.toInt8.toInt32)), .val (.int ((y0 >>> ((8 : Int32) &&& 31)).toInt8.toInt32)), .val (.ref t), .unset, .unset, .unset, .unset, .unset, .unset, .unset, .unset, .unset] [(.int z3), (.int (3 : Int32)), (.ref t)])) _
          refine s_putB (pc' := 97) X10 hx hZ e10 V11 ⟨by decide, by decide⟩ 3 rfl (Nat.le_of_ble_eq_true rfl) (hb hby at_96) rfl fun T13 hp13 X13 e13 W13 Vw13 => ?_
          have V14 : Arv Z hp13 t ka1 .byte (6 : Int32) [(.int (nar .byte z0)), (.int (nar .byte z1)), (.int (nar .byte z2)), (.int (nar .byte z3)), (.int (0 : Int32)), (.int (0 : Int32))] (.int (0 : Int32)) := Vw13
          have N13 := Fr.snoc X13 N10 g_t
          have Z15 : n0 ≤ hp13.size := Nat.le_trans Z12 (Keep.of_wr W13).1
          refine s_aload (pc' := 99) X13.here hx (hb hby at_97) rfl rfl rfl ?_
          refine s_iconst (pc' := 100) X13.here hx (v := (4 : Int32)) (hb hby at_99) rfl rfl ?_
          refine s_iloadN (pc' := 101) X13.here hx (hb hby at_100) rfl rfl ?_
          refine s_bipush (pc' := 103) X13.here hx (v := (20 : Int32)) (hb hby at_101) rfl rfl ?_
          refine s_iushr (pc' := 104) X13.here hx (hb hby at_103) rfl ?_
          refine s_iconst (pc' := 105) X13.here hx (v := (1 : Int32)) (hb hby at_104) rfl rfl ?_
          refine s_iand (pc' := 106) X13.here hx (hb hby at_105) rfl ?_
          refine own_join (α := Int32) (fun z4 => T13.setTop (mkF m 116 #[.val (.int y0), .val (.int y1), .val (.int y2), .val (.int y3), .val (.int y4), .val (.int y5), .val (.int (y0.toInt8.toInt32)), .val (.int ((y0 >>> ((8 : Int32) &&& 31)).toInt8.toInt32)), .val (.ref t), .unset, .unset, .unset, .unset, .unset, .unset, .unset, .unset, .unset] [(.int z4), (.int (4 : Int32)), (.ref t)])) (fun z4 => True) (fun key => ?_) ?_
          · by_cases hb_4 : (((y0.toUInt32 >>> ((20 : Int32) &&& 31).toUInt32).toInt32) &&& (1 : Int32)) = (0 : Int32)
            · refine s_ifYes (pc' := 114) X13.here hx (hb hby at_106) ((if0 _ _).trans (teq hb_4).1) (by decide) (by decide) ?_
              refine s_iload (pc' := 116) X13.here hx (hb hby at_114) rfl rfl ?_
              exact key ((y0.toInt8.toInt32)) trivial
            · refine s_ifNo (pc' := 109) X13.here hx (hb hby at_106) ((if0 _ _).trans (feq hb_4).1) rfl ?_
              refine s_iload (pc' := 111) X13.here hx (hb hby at_109) rfl rfl ?_
              refine s_goto (pc' := 116) X13.here hx (hb hby at_111) (by decide) (by decide) ?_
              exact key (((y0 >>> ((8 : Int32) &&& 31)).toInt8.toInt32)) trivial
          · rintro z4 hz_4
            try dsimp only at hz_4
            try dsimp only
            show Ends p.tables e below (T13.setTop (mkF m 116 #[.val (.int y0), .val (.int y1), .val (.int y2), .val (.int y3), .val (.int y4), .val (.int y5), .val (.int (y0.toInt8.toInt32)), .val (.int ((y0 >>> ((8 : Int32) &&& 31)).toInt8.toInt32)), .val (.ref t), .unset, .unset, .unset, .unset, .unset, .unset, .unset, .unset, .unset] [(.int z4), (.int (4 : Int32)), (.ref t)])) _
            refine s_putB (pc' := 117) X13 hx hZ e13 V14 ⟨by decide, by decide⟩ 4 rfl (Nat.le_of_ble_eq_true rfl) (hb hby at_116) rfl fun T16 hp16 X16 e16 W16 Vw16 => ?_
            have V17 : Arv Z hp16 t ka1 .byte (6 : Int32) [(.int (nar .byte z0)), (.int (nar .byte z1)), (.int (nar .byte z2)), (.int (nar .byte z3)), (.int (nar .byte z4)), (.int (0 : Int32))] (.int (0 : Int32)) := Vw16
            have N16 := Fr.snoc X16 N13 g_t
            have Z18 : n0 ≤ hp16.size := Nat.le_trans Z15 (Keep.of_wr W16).1
            refine s_aload (pc' := 119) X16.here hx (hb hby at_117) rfl rfl rfl ?_
            refine s_iconst (pc' := 120) X16.here hx (v := (5 : Int32)) (hb hby at_119) rfl rfl ?_
            refine s_iloadN (pc' := 121) X16.here hx (hb hby at_120) rfl rfl ?_
            refine s_bipush (pc' := 123) X16.here hx (v := (21 : Int32)) (hb hby at_121) rfl rfl ?_
            refine s_iushr (pc' := 124) X16.here hx (hb hby at_123) rfl ?_
            refine s_iconst (pc' := 125) X16.here hx (v := (1 : Int32)) (hb hby at_124) rfl rfl ?_
            refine s_iand (pc' := 126) X16.here hx (hb hby at_125) rfl ?_
            refine own_join (α := Int32) (fun z5 => T16.setTop (mkF m 136 #[.val (.int y0), .val (.int y1), .val (.int y2), .val (.int y3), .val (.int y4), .val (.int y5), .val (.int (y0.toInt8.toInt32)), .val (.int ((y0 >>> ((8 : Int32) &&& 31)).toInt8.toInt32)), .val (.ref t), .unset, .unset, .unset, .unset, .unset, .unset, .unset, .unset, .unset] [(.int z5), (.int (5 : Int32)), (.ref t)])) (fun z5 => True) (fun key => ?_) ?_
            · by_cases hb_5 : (((y0.toUInt32 >>> ((21 : Int32) &&& 31).toUInt32).toInt32) &&& (1 : Int32)) = (0 : Int32)
              · refine s_ifYes (pc' := 134) X16.here hx (hb hby at_126) ((if0 _ _).trans (teq hb_5).1) (by decide) (by decide) ?_
                refine s_iload (pc' := 136) X16.here hx (hb hby at_134) rfl rfl ?_
                exact key ((y0.toInt8.toInt32)) trivial
              · refine s_ifNo (pc' := 129) X16.here hx (hb hby at_126) ((if0 _ _).trans (feq hb_5).1) rfl ?_
                refine s_iload (pc' := 131) X16.here hx (hb hby at_129) rfl rfl ?_
                refine s_goto (pc' := 136) X16.here hx (hb hby at_131) (by decide) (by decide) ?_
                exact key (((y0 >>> ((8 : Int32) &&& 31)).toInt8.toInt32)) trivial
            · rintro z5 hz_5
              try dsimp only at hz_5
              try dsimp only
              show Ends p.tables e below (T16.setTop (mkF m 136 #[.val (.int y0), .val (.int y1), .val (.int y2), .val (.int y3), .val (.int y4), .val (.int y5), .val (.int (y0.toInt8.toInt32)), .val (.int ((y0 >>> ((8 : Int32) &&& 31)).toInt8.toInt32)), .val (.ref t), .unset, .unset, .unset, .unset, .unset, .unset, .unset, .unset, .unset] [(.int z5), (.int (5 : Int32)), (.ref t)])) _
              refine s_putB (pc' := 137) X16 hx hZ e16 V17 ⟨by decide, by decide⟩ 5 rfl (Nat.le_of_ble_eq_true rfl) (hb hby at_136) rfl fun T19 hp19 X19 e19 W19 Vw19 => ?_
              have V20 : Arv Z hp19 t ka1 .byte (6 : Int32) [(.int (nar .byte z0)), (.int (nar .byte z1)), (.int (nar .byte z2)), (.int (nar .byte z3)), (.int (nar .byte z4)), (.int (nar .byte z5))] (.int (0 : Int32)) := Vw19
              have N19 := Fr.snoc X19 N16 g_t
              have Z21 : n0 ≤ hp19.size := Nat.le_trans Z18 (Keep.of_wr W19).1
              obtain ⟨tb, V_t⟩ : ∃ tb : List Value, Arv Z hp19 t ka1 .byte (6 : Int32) tb (.int (0 : Int32)) := ⟨_, V20⟩
              refine s_bipush (pc' := 139) X19.here hx (v := (20 : Int32)) (hb hby at_137) rfl rfl ?_
              refine s_newP (pc' := 141) (cap := 20) X19 hx hZ (hw _ (List.mem_of_getElem? (i := 1) rfl)) e19 (hb hby at_139) (by decide) (by decide) (by decide) (by decide) (by decide) rfl fun T22 hp22 X22 e22 ka22 E22 d gq22 A22 => ?_
              have g_d : n0 ≤ d := Nat.le_trans Z21 (Nat.le_of_eq gq22.symm)
              have ne23 : t ≠ d := Nat.ne_of_lt (Nat.lt_of_lt_of_le V_t.lt (Nat.le_of_eq gq22.symm))
              have fq24 := V_t.ext E22
              have Z25 : n0 ≤ hp22.size := Nat.le_trans Z21 E22.1
              have V26 : Arv Z hp22 d ka22 .int (20 : Int32) [(.int (0 : Int32)), (.int (0 : Int32)), (.int (0 : Int32)), (.int (0 : Int32)), (.int (0 : Int32)), (.int (0 : Int32)), (.int (0 : Int32)), (.int (0 : Int32)), (.int (0 : Int32)), (.int (0 : Int32)), (.int (0 : Int32)), (.int (0 : Int32)), (.int (0 : Int32)), (.int (0 : Int32)), (.int (0 : Int32)), (.int (0 : Int32)), (.int (0 : Int32)), (.int (0 : Int32)), (.int (0 : Int32)), (.int (0 : Int32))] (.int (0 : Int32)) := (Arv.new A22 (by decide)).pad (pad_rep [] (.int (0 : Int32)) 20)
              refine s_astore (pc' := 143) X22.here hx (l' := #[.val (.int y0), .val (.int y1), .val (.int y2), .val (.int y3), .val (.int y4), .val (.int y5), .val (.int (y0.toInt8.toInt32)), .val (.int ((y0 >>> ((8 : Int32) &&& 31)).toInt8.toInt32)), .val (.ref t), .val (.ref d), .unset, .unset, .unset, .unset, .unset, .unset, .unset, .unset]) (hb hby at_141) rfl rfl rfl ?_
              refine s_aload (pc' := 145) X22.here hx (hb hby at_143) rfl rfl rfl ?_
              refine s_iconst (pc' := 146) X22.here hx (v := (0 : Int32)) (hb hby at_145) rfl rfl ?_
              refine s_iloadN (pc' := 147) X22.here hx (hb hby at_146) rfl rfl ?_
              refine s_callS (pc' := 150) (W := 0) X22 hx hZ  hown (hw _ (List.mem_of_getElem? (i := 2) rfl)) (hw _ (List.mem_of_getElem? (i := 3) rfl)) (hw _ (List.mem_of_getElem? (i := 4) rfl)) (hw _ (List.mem_of_getElem? (i := 5) rfl)) (by decide) e22 (own_fill0 l Z a0 hw [] d y1 ka22 [(.int (0 : Int32)), (.int (0 : Int32)), (.int (0 : Int32)), (.int (0 : Int32)), (.int (0 : Int32)), (.int (0 : Int32)), (.int (0 : Int32)), (.int (0 : Int32)), (.int (0 : Int32)), (.int (0 : Int32)), (.int (0 : Int32)), (.int (0 : Int32)), (.int (0 : Int32)), (.int (0 : Int32)), (.int (0 : Int32)), (.int (0 : Int32)), (.int (0 : Int32)), (.int (0 : Int32)), (.int (0 : Int32)), (.int (0 : Int32))] hp22 n0 Z25 V26 g_d rfl) (by rw [hml]; rfl) [(.ref d), (.int (0 : Int32)), (.int y1)] [] rfl (lenOf own_pd7 rfl) rfl (Nat.le_of_eq rfl) (by decide) (by decide) (by decide) (by decide) rfl (hb hby at_147) fun T27 v27 Lc27 X27 hQ27 => ?_
              obtain ⟨rfl, Nq27, Kq27, Vd0⟩ := hQ27
              have N27 := Fr.app N19 Nq27
              have fq28 := fq24.keep Kq27 (ninS ne23 nin0)
              have Z29 : n0 ≤ T27.heap.size := Nat.le_trans Z25 Kq27.1
              show Ends p.tables e below (T27.setTop (mkF m 150 #[.val (.int y0), .val (.int y1), .val (.int y2), .val (.int y3), .val (.int y4), .val (.int y5), .val (.int (y0.toInt8.toInt32)), .val (.int ((y0 >>> ((8 : Int32) &&& 31)).toInt8.toInt32)), .val (.ref t), .val (.ref d), .unset, .unset, .unset, .unset, .unset, .unset, .unset, .unset] [])) _
              obtain ⟨a1, a2, a3, a4, Ba0, Bb0, VD0⟩ : ∃ a1 a2 a3 a4 : Int32, own_B a1 a2 ∧ own_B a3 a4 ∧ Arv Z T27.heap d ka22 .int (20 : Int32) [(.int a1), (.int a2), (.int a3), (.int a4), (.int (0 : Int32)), (.int (0 : Int32)), (.int (0 : Int32)), (.int (0 : Int32)), (.int (0 : Int32)), (.int (0 : Int32)), (.int (0 : Int32)), (.int (0 : Int32)), (.int (0 : Int32)), (.int (0 : Int32)), (.int (0 : Int32)), (.int (0 : Int32)), (.int (0 : Int32)), (.int (0 : Int32)), (.int (0 : Int32)), (.int (0 : Int32))] (.int (0 : Int32)) := ⟨(((y1 &&& (255 : Int32)) % (15 : Int32)) % (5 : Int32)), (((y1 &&& (255 : Int32)) % (15 : Int32)) / (5 : Int32)), (((((y1.toUInt32 >>> ((8 : Int32) &&& 31).toUInt32).toInt32) &&& (255 : Int32)) % (15 : Int32)) % (5 : Int32)), (((((y1.toUInt32 >>> ((8 : Int32) &&& 31).toUInt32).toInt32) &&& (255 : Int32)) % (15 : Int32)) / (5 : Int32)), own_fb _, own_fb _, Vd0⟩
              refine s_aload (pc' := 152) X27.here hx (hb hby at_150) rfl rfl rfl ?_
              refine s_iconst (pc' := 153) X27.here hx (v := (4 : Int32)) (hb hby at_152) rfl rfl ?_
              refine s_iloadN (pc' := 154) X27.here hx (hb hby at_153) rfl rfl ?_
              refine s_callS (pc' := 157) (W := 0) X27 hx hZ  hown (hw _ (List.mem_of_getElem? (i := 2) rfl)) (hw _ (List.mem_of_getElem? (i := 3) rfl)) (hw _ (List.mem_of_getElem? (i := 4) rfl)) (hw _ (List.mem_of_getElem? (i := 5) rfl)) (by decide) rfl (own_fill4 l Z a0 hw [] d y2 ka22 [(.int a1), (.int a2), (.int a3), (.int a4), (.int (0 : Int32)), (.int (0 : Int32)), (.int (0 : Int32)), (.int (0 : Int32)), (.int (0 : Int32)), (.int (0 : Int32)), (.int (0 : Int32)), (.int (0 : Int32)), (.int (0 : Int32)), (.int (0 : Int32)), (.int (0 : Int32)), (.int (0 : Int32)), (.int (0 : Int32)), (.int (0 : Int32)), (.int (0 : Int32)), (.int (0 : Int32))] T27.heap n0 Z29 VD0 g_d rfl) (by rw [hml]; rfl) [(.ref d), (.int (4 : Int32)), (.int y2)] [] rfl (lenOf own_pd7 rfl) rfl (Nat.le_of_eq rfl) (by decide) (by decide) (by decide) (by decide) rfl (hb hby at_154) fun T30 v30 Lc30 X30 hQ30 => ?_
              obtain ⟨rfl, Nq30, Kq30, Vd1⟩ := hQ30
              have N30 := Fr.app N27 Nq30
              have fq31 := fq28.keep Kq30 (ninS ne23 nin0)
              have Z32 : n0 ≤ T30.heap.size := Nat.le_trans Z29 Kq30.1
              show Ends p.tables e below (T30.setTop (mkF m 157 #[.val (.int y0), .val (.int y1), .val (.int y2), .val (.int y3), .val (.int y4), .val (.int y5), .val (.int (y0.toInt8.toInt32)), .val (.int ((y0 >>> ((8 : Int32) &&& 31)).toInt8.toInt32)), .val (.ref t), .val (.ref d), .unset, .unset, .unset, .unset, .unset, .unset, .unset, .unset] [])) _
              obtain ⟨b1, b2, b3, b4, Ba1, Bb1, VD1⟩ : ∃ b1 b2 b3 b4 : Int32, own_B b1 b2 ∧ own_B b3 b4 ∧ Arv Z T30.heap d ka22 .int (20 : Int32) [(.int a1), (.int a2), (.int a3), (.int a4), (.int b1), (.int b2), (.int b3), (.int b4), (.int (0 : Int32)), (.int (0 : Int32)), (.int (0 : Int32)), (.int (0 : Int32)), (.int (0 : Int32)), (.int (0 : Int32)), (.int (0 : Int32)), (.int (0 : Int32)), (.int (0 : Int32)), (.int (0 : Int32)), (.int (0 : Int32)), (.int (0 : Int32))] (.int (0 : Int32)) := ⟨(((y2 &&& (255 : Int32)) % (15 : Int32)) % (5 : Int32)), (((y2 &&& (255 : Int32)) % (15 : Int32)) / (5 : Int32)), (((((y2.toUInt32 >>> ((8 : Int32) &&& 31).toUInt32).toInt32) &&& (255 : Int32)) % (15 : Int32)) % (5 : Int32)), (((((y2.toUInt32 >>> ((8 : Int32) &&& 31).toUInt32).toInt32) &&& (255 : Int32)) % (15 : Int32)) / (5 : Int32)), own_fb _, own_fb _, Vd1⟩
              refine s_aload (pc' := 159) X30.here hx (hb hby at_157) rfl rfl rfl ?_
              refine s_bipush (pc' := 161) X30.here hx (v := (8 : Int32)) (hb hby at_159) rfl rfl ?_
              refine s_iloadN (pc' := 162) X30.here hx (hb hby at_161) rfl rfl ?_
              refine s_callS (pc' := 165) (W := 0) X30 hx hZ  hown (hw _ (List.mem_of_getElem? (i := 2) rfl)) (hw _ (List.mem_of_getElem? (i := 3) rfl)) (hw _ (List.mem_of_getElem? (i := 4) rfl)) (hw _ (List.mem_of_getElem? (i := 5) rfl)) (by decide) rfl (own_fill8 l Z a0 hw [] d y3 ka22 [(.int a1), (.int a2), (.int a3), (.int a4), (.int b1), (.int b2), (.int b3), (.int b4), (.int (0 : Int32)), (.int (0 : Int32)), (.int (0 : Int32)), (.int (0 : Int32)), (.int (0 : Int32)), (.int (0 : Int32)), (.int (0 : Int32)), (.int (0 : Int32)), (.int (0 : Int32)), (.int (0 : Int32)), (.int (0 : Int32)), (.int (0 : Int32))] T30.heap n0 Z32 VD1 g_d rfl) (by rw [hml]; rfl) [(.ref d), (.int (8 : Int32)), (.int y3)] [] rfl (lenOf own_pd7 rfl) rfl (Nat.le_of_eq rfl) (by decide) (by decide) (by decide) (by decide) rfl (hb hby at_162) fun T33 v33 Lc33 X33 hQ33 => ?_
              obtain ⟨rfl, Nq33, Kq33, Vd2⟩ := hQ33
              have N33 := Fr.app N30 Nq33
              have fq34 := fq31.keep Kq33 (ninS ne23 nin0)
              have Z35 : n0 ≤ T33.heap.size := Nat.le_trans Z32 Kq33.1
              show Ends p.tables e below (T33.setTop (mkF m 165 #[.val (.int y0), .val (.int y1), .val (.int y2), .val (.int y3), .val (.int y4), .val (.int y5), .val (.int (y0.toInt8.toInt32)), .val (.int ((y0 >>> ((8 : Int32) &&& 31)).toInt8.toInt32)), .val (.ref t), .val (.ref d), .unset, .unset, .unset, .unset, .unset, .unset, .unset, .unset] [])) _
              obtain ⟨c1, c2, c3, c4, Ba2, Bb2, VD2⟩ : ∃ c1 c2 c3 c4 : Int32, own_B c1 c2 ∧ own_B c3 c4 ∧ Arv Z T33.heap d ka22 .int (20 : Int32) [(.int a1), (.int a2), (.int a3), (.int a4), (.int b1), (.int b2), (.int b3), (.int b4), (.int c1), (.int c2), (.int c3), (.int c4), (.int (0 : Int32)), (.int (0 : Int32)), (.int (0 : Int32)), (.int (0 : Int32)), (.int (0 : Int32)), (.int (0 : Int32)), (.int (0 : Int32)), (.int (0 : Int32))] (.int (0 : Int32)) := ⟨(((y3 &&& (255 : Int32)) % (15 : Int32)) % (5 : Int32)), (((y3 &&& (255 : Int32)) % (15 : Int32)) / (5 : Int32)), (((((y3.toUInt32 >>> ((8 : Int32) &&& 31).toUInt32).toInt32) &&& (255 : Int32)) % (15 : Int32)) % (5 : Int32)), (((((y3.toUInt32 >>> ((8 : Int32) &&& 31).toUInt32).toInt32) &&& (255 : Int32)) % (15 : Int32)) / (5 : Int32)), own_fb _, own_fb _, Vd2⟩
              refine s_aload (pc' := 167) X33.here hx (hb hby at_165) rfl rfl rfl ?_
              refine s_bipush (pc' := 169) X33.here hx (v := (12 : Int32)) (hb hby at_167) rfl rfl ?_
              refine s_iload (pc' := 171) X33.here hx (hb hby at_169) rfl rfl ?_
              refine s_callS (pc' := 174) (W := 0) X33 hx hZ  hown (hw _ (List.mem_of_getElem? (i := 2) rfl)) (hw _ (List.mem_of_getElem? (i := 3) rfl)) (hw _ (List.mem_of_getElem? (i := 4) rfl)) (hw _ (List.mem_of_getElem? (i := 5) rfl)) (by decide) rfl (own_fill12 l Z a0 hw [] d y4 ka22 [(.int a1), (.int a2), (.int a3), (.int a4), (.int b1), (.int b2), (.int b3), (.int b4), (.int c1), (.int c2), (.int c3), (.int c4), (.int (0 : Int32)), (.int (0 : Int32)), (.int (0 : Int32)), (.int (0 : Int32)), (.int (0 : Int32)), (.int (0 : Int32)), (.int (0 : Int32)), (.int (0 : Int32))] T33.heap n0 Z35 VD2 g_d rfl) (by rw [hml]; rfl) [(.ref d), (.int (12 : Int32)), (.int y4)] [] rfl (lenOf own_pd7 rfl) rfl (Nat.le_of_eq rfl) (by decide) (by decide) (by decide) (by decide) rfl (hb hby at_171) fun T36 v36 Lc36 X36 hQ36 => ?_
              obtain ⟨rfl, Nq36, Kq36, Vd3⟩ := hQ36
              have N36 := Fr.app N33 Nq36
              have fq37 := fq34.keep Kq36 (ninS ne23 nin0)
              have Z38 : n0 ≤ T36.heap.size := Nat.le_trans Z35 Kq36.1
              show Ends p.tables e below (T36.setTop (mkF m 174 #[.val (.int y0), .val (.int y1), .val (.int y2), .val (.int y3), .val (.int y4), .val (.int y5), .val (.int (y0.toInt8.toInt32)), .val (.int ((y0 >>> ((8 : Int32) &&& 31)).toInt8.toInt32)), .val (.ref t), .val (.ref d), .unset, .unset, .unset, .unset, .unset, .unset, .unset, .unset] [])) _
              obtain ⟨q1, q2, q3, q4, Ba3, Bb3, VD3⟩ : ∃ q1 q2 q3 q4 : Int32, own_B q1 q2 ∧ own_B q3 q4 ∧ Arv Z T36.heap d ka22 .int (20 : Int32) [(.int a1), (.int a2), (.int a3), (.int a4), (.int b1), (.int b2), (.int b3), (.int b4), (.int c1), (.int c2), (.int c3), (.int c4), (.int q1), (.int q2), (.int q3), (.int q4), (.int (0 : Int32)), (.int (0 : Int32)), (.int (0 : Int32)), (.int (0 : Int32))] (.int (0 : Int32)) := ⟨(((y4 &&& (255 : Int32)) % (15 : Int32)) % (5 : Int32)), (((y4 &&& (255 : Int32)) % (15 : Int32)) / (5 : Int32)), (((((y4.toUInt32 >>> ((8 : Int32) &&& 31).toUInt32).toInt32) &&& (255 : Int32)) % (15 : Int32)) % (5 : Int32)), (((((y4.toUInt32 >>> ((8 : Int32) &&& 31).toUInt32).toInt32) &&& (255 : Int32)) % (15 : Int32)) / (5 : Int32)), own_fb _, own_fb _, Vd3⟩
              refine s_aload (pc' := 176) X36.here hx (hb hby at_174) rfl rfl rfl ?_
              refine s_bipush (pc' := 178) X36.here hx (v := (16 : Int32)) (hb hby at_176) rfl rfl ?_
              refine s_iload (pc' := 180) X36.here hx (hb hby at_178) rfl rfl ?_
              refine s_callS (pc' := 183) (W := 0) X36 hx hZ  hown (hw _ (List.mem_of_getElem? (i := 2) rfl)) (hw _ (List.mem_of_getElem? (i := 3) rfl)) (hw _ (List.mem_of_getElem? (i := 4) rfl)) (hw _ (List.mem_of_getElem? (i := 5) rfl)) (by decide) rfl (own_fill16 l Z a0 hw [] d y5 ka22 [(.int a1), (.int a2), (.int a3), (.int a4), (.int b1), (.int b2), (.int b3), (.int b4), (.int c1), (.int c2), (.int c3), (.int c4), (.int q1), (.int q2), (.int q3), (.int q4), (.int (0 : Int32)), (.int (0 : Int32)), (.int (0 : Int32)), (.int (0 : Int32))] T36.heap n0 Z38 VD3 g_d rfl) (by rw [hml]; rfl) [(.ref d), (.int (16 : Int32)), (.int y5)] [] rfl (lenOf own_pd7 rfl) rfl (Nat.le_of_eq rfl) (by decide) (by decide) (by decide) (by decide) rfl (hb hby at_180) fun T39 v39 Lc39 X39 hQ39 => ?_
              obtain ⟨rfl, Nq39, Kq39, Vd4⟩ := hQ39
              have N39 := Fr.app N36 Nq39
              have fq40 := fq37.keep Kq39 (ninS ne23 nin0)
              have Z41 : n0 ≤ T39.heap.size := Nat.le_trans Z38 Kq39.1
              show Ends p.tables e below (T39.setTop (mkF m 183 #[.val (.int y0), .val (.int y1), .val (.int y2), .val (.int y3), .val (.int y4), .val (.int y5), .val (.int (y0.toInt8.toInt32)), .val (.int ((y0 >>> ((8 : Int32) &&& 31)).toInt8.toInt32)), .val (.ref t), .val (.ref d), .unset, .unset, .unset, .unset, .unset, .unset, .unset, .unset] [])) _
              obtain ⟨r1, r2, r3, r4, Ba4, Bb4, VD4⟩ : ∃ r1 r2 r3 r4 : Int32, own_B r1 r2 ∧ own_B r3 r4 ∧ Arv Z T39.heap d ka22 .int (20 : Int32) [(.int a1), (.int a2), (.int a3), (.int a4), (.int b1), (.int b2), (.int b3), (.int b4), (.int c1), (.int c2), (.int c3), (.int c4), (.int q1), (.int q2), (.int q3), (.int q4), (.int r1), (.int r2), (.int r3), (.int r4)] (.int (0 : Int32)) := ⟨(((y5 &&& (255 : Int32)) % (15 : Int32)) % (5 : Int32)), (((y5 &&& (255 : Int32)) % (15 : Int32)) / (5 : Int32)), (((((y5.toUInt32 >>> ((8 : Int32) &&& 31).toUInt32).toInt32) &&& (255 : Int32)) % (15 : Int32)) % (5 : Int32)), (((((y5.toUInt32 >>> ((8 : Int32) &&& 31).toUInt32).toInt32) &&& (255 : Int32)) % (15 : Int32)) / (5 : Int32)), own_fb _, own_fb _, Vd4⟩
              obtain ⟨ds, V_d, DD0, DD1, DD2, DD3, DD4, dg12, dg13, dg14, dg15, dg16, dg17, dg18, dg19⟩ : ∃ ds : List Value, Arv Z T39.heap d ka22 .int (20 : Int32) ds (.int (0 : Int32)) ∧ own_D ds (0 : Int32) a1 a2 a3 a4 ∧ own_D ds (4 : Int32) b1 b2 b3 b4 ∧ own_D ds (8 : Int32) c1 c2 c3 c4 ∧ own_D ds (12 : Int32) q1 q2 q3 q4 ∧ own_D ds (16 : Int32) r1 r2 r3 r4 ∧ ds.getD (12 : Int32).toNatClampNeg (.int (0 : Int32)) = .int q1 ∧ ds.getD (13 : Int32).toNatClampNeg (.int (0 : Int32)) = .int q2 ∧ ds.getD (14 : Int32).toNatClampNeg (.int (0 : Int32)) = .int q3 ∧ ds.getD (15 : Int32).toNatClampNeg (.int (0 : Int32)) = .int q4 ∧ ds.getD (16 : Int32).toNatClampNeg (.int (0 : Int32)) = .int r1 ∧ ds.getD (17 : Int32).toNatClampNeg (.int (0 : Int32)) = .int r2 ∧ ds.getD (18 : Int32).toNatClampNeg (.int (0 : Int32)) = .int r3 ∧ ds.getD (19 : Int32).toNatClampNeg (.int (0 : Int32)) = .int r4 := ⟨[(.int a1), (.int a2), (.int a3), (.int a4), (.int b1), (.int b2), (.int b3), (.int b4), (.int c1), (.int c2), (.int c3), (.int c4), (.int q1), (.int q2), (.int q3), (.int q4), (.int r1), (.int r2), (.int r3), (.int r4)], VD4, ⟨⟨by decide, by decide⟩, own_gd (i := 0) (by decide) rfl, ⟨by decide, by decide⟩, own_gd (i := 1) (by decide) rfl, ⟨by decide, by decide⟩, own_gd (i := 2) (by decide) rfl, ⟨by decide, by decide⟩, own_gd (i := 3) (by decide) rfl, Ba0, Bb0⟩, ⟨⟨by decide, by decide⟩, own_gd (i := 4) (by decide) rfl, ⟨by decide, by decide⟩, own_gd (i := 5) (by decide) rfl, ⟨by decide, by decide⟩, own_gd (i := 6) (by decide) rfl, ⟨by decide, by decide⟩, own_gd (i := 7) (by decide) rfl, Ba1, Bb1⟩, ⟨⟨by decide, by decide⟩, own_gd (i := 8) (by decide) rfl, ⟨by decide, by decide⟩, own_gd (i := 9) (by decide) rfl, ⟨by decide, by decide⟩, own_gd (i := 10) (by decide) rfl, ⟨by decide, by decide⟩, own_gd (i := 11) (by decide) rfl, Ba2, Bb2⟩, ⟨⟨by decide, by decide⟩, own_gd (i := 12) (by decide) rfl, ⟨by decide, by decide⟩, own_gd (i := 13) (by decide) rfl, ⟨by decide, by decide⟩, own_gd (i := 14) (by decide) rfl, ⟨by decide, by decide⟩, own_gd (i := 15) (by decide) rfl, Ba3, Bb3⟩, ⟨⟨by decide, by decide⟩, own_gd (i := 16) (by decide) rfl, ⟨by decide, by decide⟩, own_gd (i := 17) (by decide) rfl, ⟨by decide, by decide⟩, own_gd (i := 18) (by decide) rfl, ⟨by decide, by decide⟩, own_gd (i := 19) (by decide) rfl, Ba4, Bb4⟩, own_gd (j := (12 : Int32)) (i := 12) (by decide) rfl, own_gd (j := (13 : Int32)) (i := 13) (by decide) rfl, own_gd (j := (14 : Int32)) (i := 14) (by decide) rfl, own_gd (j := (15 : Int32)) (i := 15) (by decide) rfl, own_gd (j := (16 : Int32)) (i := 16) (by decide) rfl, own_gd (j := (17 : Int32)) (i := 17) (by decide) rfl, own_gd (j := (18 : Int32)) (i := 18) (by decide) rfl, own_gd (j := (19 : Int32)) (i := 19) (by decide) rfl⟩
              have DE0 := DD0
              obtain ⟨i0_0, v0_0, i0_1, v0_1, i0_2, v0_2, i0_3, v0_3, -, -⟩ := DE0
              have DE1 := DD1
              obtain ⟨i1_0, v1_0, i1_1, v1_1, i1_2, v1_2, i1_3, v1_3, -, -⟩ := DE1
              have DE2 := DD2
              obtain ⟨i2_0, v2_0, i2_1, v2_1, i2_2, v2_2, i2_3, v2_3, -, -⟩ := DE2
              refine s_iload (pc' := 185) X39.here hx (hb hby at_183) rfl rfl ?_
              refine s_bipush (pc' := 187) X39.here hx (v := (16 : Int32)) (hb hby at_185) rfl rfl ?_
              refine s_iushr (pc' := 188) X39.here hx (hb hby at_187) rfl ?_
              refine s_iconst (pc' := 189) X39.here hx (v := (3 : Int32)) (hb hby at_188) rfl rfl ?_
              refine s_iand (pc' := 190) X39.here hx (hb hby at_189) rfl ?_
              obtain ⟨cnt, hcnt⟩ : ∃ z : Int32, z = (((y4.toUInt32 >>> ((16 : Int32) &&& 31).toUInt32).toInt32) &&& (3 : Int32)) := ⟨_, rfl⟩
              rw [← hcnt]
              refine s_istore (pc' := 192) X39.here hx (l' := #[.val (.int y0), .val (.int y1), .val (.int y2), .val (.int y3), .val (.int y4), .val (.int y5), .val (.int (y0.toInt8.toInt32)), .val (.int ((y0 >>> ((8 : Int32) &&& 31)).toInt8.toInt32)), .val (.ref t), .val (.ref d), .val (.int cnt), .unset, .unset, .unset, .unset, .unset, .unset, .unset]) (hb hby at_190) rfl rfl ?_
              refine s_iconst (pc' := 193) X39.here hx (v := (3 : Int32)) (hb hby at_192) rfl rfl ?_
              refine s_newP (pc' := 195) (cap := 3) X39 hx hZ (hw _ (List.mem_of_getElem? (i := 1) rfl)) rfl (hb hby at_193) (by decide) (by decide) (by decide) (by decide) (by decide) rfl fun T42 hp42 X42 e42 ka42 E42 nu gq42 A42 => ?_
              have g_nu : n0 ≤ nu := Nat.le_trans Z41 (Nat.le_of_eq gq42.symm)
              have ne43 : t ≠ nu := Nat.ne_of_lt (Nat.lt_of_lt_of_le fq40.lt (Nat.le_of_eq gq42.symm))
              have ne44 : d ≠ nu := Nat.ne_of_lt (Nat.lt_of_lt_of_le V_d.lt (Nat.le_of_eq gq42.symm))
              have fq45 := fq40.ext E42
              have fq46 := V_d.ext E42
              have Z47 : n0 ≤ hp42.size := Nat.le_trans Z41 E42.1
              have V48 : Arv Z hp42 nu ka42 .int (3 : Int32) [(.int (0 : Int32)), (.int (0 : Int32)), (.int (0 : Int32))] (.int (0 : Int32)) := (Arv.new A42 (by decide)).pad (pad_rep [] (.int (0 : Int32)) 3)
              refine s_astore (pc' := 197) X42.here hx (l' := #[.val (.int y0), .val (.int y1), .val (.int y2), .val (.int y3), .val (.int y4), .val (.int y5), .val (.int (y0.toInt8.toInt32)), .val (.int ((y0 >>> ((8 : Int32) &&& 31)).toInt8.toInt32)), .val (.ref t), .val (.ref d), .val (.int cnt), .val (.ref nu), .unset, .unset, .unset, .unset, .unset, .unset]) (hb hby at_195) rfl rfl rfl ?_
              refine s_aload (pc' := 199) X42.here hx (hb hby at_197) rfl rfl rfl ?_
              refine s_iconst (pc' := 200) X42.here hx (v := (0 : Int32)) (hb hby at_199) rfl rfl ?_
              refine s_iconst (pc' := 201) X42.here hx (v := (-1 : Int32)) (hb hby at_200) rfl rfl ?_
              refine s_putI (pc' := 202) X42 hx hZ e42 V48 ⟨by decide, by decide⟩ 0 rfl (Nat.le_of_ble_eq_true rfl) (hb hby at_201) rfl fun T49 hp49 X49 e49 W49 Vw49 => ?_
              have V50 : Arv Z hp49 nu ka42 .int (3 : Int32) [(.int (-1 : Int32)), (.int (0 : Int32)), (.int (0 : Int32))] (.int (0 : Int32)) := Vw49
              have N49 := Fr.snoc X49 N39 g_nu
              have fq51 := fq45.other W49 ne43
              have fq52 := fq46.other W49 ne44
              have Z53 : n0 ≤ hp49.size := Nat.le_trans Z47 (Keep.of_wr W49).1
              refine s_aload (pc' := 204) X49.here hx (hb hby at_202) rfl rfl rfl ?_
              refine s_iconst (pc' := 205) X49.here hx (v := (1 : Int32)) (hb hby at_204) rfl rfl ?_
              refine s_iconst (pc' := 206) X49.here hx (v := (-1 : Int32)) (hb hby at_205) rfl rfl ?_
              refine s_putI (pc' := 207) X49 hx hZ e49 V50 ⟨by decide, by decide⟩ 1 rfl (Nat.le_of_ble_eq_true rfl) (hb hby at_206) rfl fun T54 hp54 X54 e54 W54 Vw54 => ?_
              have V55 : Arv Z hp54 nu ka42 .int (3 : Int32) [(.int (-1 : Int32)), (.int (-1 : Int32)), (.int (0 : Int32))] (.int (0 : Int32)) := Vw54
              have N54 := Fr.snoc X54 N49 g_nu
              have fq56 := fq51.other W54 ne43
              have fq57 := fq52.other W54 ne44
              have Z58 : n0 ≤ hp54.size := Nat.le_trans Z53 (Keep.of_wr W54).1
              refine s_aload (pc' := 209) X54.here hx (hb hby at_207) rfl rfl rfl ?_
              refine s_iconst (pc' := 210) X54.here hx (v := (2 : Int32)) (hb hby at_209) rfl rfl ?_
              refine s_iconst (pc' := 211) X54.here hx (v := (-1 : Int32)) (hb hby at_210) rfl rfl ?_
              refine s_putI (pc' := 212) X54 hx hZ e54 V55 ⟨by decide, by decide⟩ 2 rfl (Nat.le_of_ble_eq_true rfl) (hb hby at_211) rfl fun T59 hp59 X59 e59 W59 Vw59 => ?_
              have V60 : Arv Z hp59 nu ka42 .int (3 : Int32) [(.int (-1 : Int32)), (.int (-1 : Int32)), (.int (-1 : Int32))] (.int (0 : Int32)) := Vw59
              have N59 := Fr.snoc X59 N54 g_nu
              have fq61 := fq56.other W59 ne43
              have fq62 := fq57.other W59 ne44
              have Z63 : n0 ≤ hp59.size := Nat.le_trans Z58 (Keep.of_wr W59).1
              refine s_newO (pc' := 215) X59 hx hZ hown (hw _ (List.mem_of_getElem? (i := 6) rfl)) (hw _ (List.mem_of_getElem? (i := 7) rfl)) (hw _ (List.mem_of_getElem? (i := 8) rfl)) e59 (hb hby at_212) (by decide) (by decide) rfl fun T64 hp64 X64 e64 E64 a gq64 A64 D64 => ?_
              have g_a : n0 ≤ a := Nat.le_trans Z63 (Nat.le_of_eq gq64.symm)
              have ne65 : t ≠ a := Nat.ne_of_lt (Nat.lt_of_lt_of_le fq61.lt (Nat.le_of_eq gq64.symm))
              have ne66 : d ≠ a := Nat.ne_of_lt (Nat.lt_of_lt_of_le fq62.lt (Nat.le_of_eq gq64.symm))
              have ne67 : nu ≠ a := Nat.ne_of_lt (Nat.lt_of_lt_of_le V60.lt (Nat.le_of_eq gq64.symm))
              have fq68 := fq61.ext E64
              have fq69 := fq62.ext E64
              have fq70 := V60.ext E64
              have Z71 : n0 ≤ hp64.size := Nat.le_trans Z63 E64.1
              have F72 : Fld Z hp64 a "com/example/vestbook/vestbook/FirstCopies" "slots" "[I" .null := D64 (Or.inl (hw _ (List.mem_of_getElem? (i := 16) rfl))) (ty := (.array .int)) (by decide)
              have F73 : Fld Z hp64 a "com/example/vestbook/vestbook/FirstCopies" "bits" "I" (.int (0 : Int32)) := D64 (Or.inl (hw _ (List.mem_of_getElem? (i := 18) rfl))) (ty := .int) (by decide)
              have F74 : Fld Z hp64 a "com/example/vestbook/vestbook/FirstCopies" "keyBytes" "[B" .null := D64 (Or.inl (hw _ (List.mem_of_getElem? (i := 20) rfl))) (ty := (.array .byte)) (by decide)
              have F75 : Fld Z hp64 a "com/example/vestbook/vestbook/FirstCopies" "keys" "[I" .null := D64 (Or.inl (hw _ (List.mem_of_getElem? (i := 22) rfl))) (ty := (.array .int)) (by decide)
              have F76 : Fld Z hp64 a "com/example/vestbook/vestbook/FirstCopies" "values" "[Ljava/lang/Object;" .null := D64 (Or.inl (hw _ (List.mem_of_getElem? (i := 26) rfl))) (ty := (.array (.object "java/lang/Object"))) (by decide)
              have F77 : Fld Z hp64 a "com/example/vestbook/vestbook/FirstCopies" "recent" "I" (.int (0 : Int32)) := D64 (Or.inl (hw _ (List.mem_of_getElem? (i := 33) rfl))) (ty := .int) (by decide)
              have F78 : Fld Z hp64 a "com/example/vestbook/vestbook/FirstCopies" "size" "I" (.int (0 : Int32)) := D64 (Or.inl (hw _ (List.mem_of_getElem? (i := 35) rfl))) (ty := .int) (by decide)
              have F79 : Fld Z hp64 a "com/example/vestbook/vestbook/FirstCopies" "keyBytesTaken" "I" (.int (0 : Int32)) := D64 (Or.inl (hw _ (List.mem_of_getElem? (i := 60) rfl))) (ty := .int) (by decide)
              refine s_dup (pc' := 216) X64.here hx (hb hby at_215) rfl rfl ?_
              refine s_callI (pc' := 219) (W := 1) X64 hx hZ  rfl hown (hw _ (List.mem_of_getElem? (i := 9) rfl)) (hw _ (List.mem_of_getElem? (i := 10) rfl)) (hw _ (List.mem_of_getElem? (i := 8) rfl)) (hw _ (List.mem_of_getElem? (i := 11) rfl)) (by decide) e64 (own_init l Z a0 hw [] a hp64 n0 Z71 F72 F73 F74 F75 F76 F78 F79 F77 A64 g_a) a (by rw [hml]; rfl) [] [(.ref a)] rfl (lenOf own_pd8 rfl) rfl (Nat.le_of_eq rfl) (by decide) (by decide) (by decide) (by decide) rfl (hb hby at_216) fun T80 v80 Lc80 X80 hQ80 => ?_
              obtain ⟨sa, kb, ka, va, ks, kkb, kka, kv, rfl, Nq80, Kq80, E_i, Fi_slots, Fi_bits, Fi_keyBytes, Fi_keys, Fi_values, Fi_size, Fi_keyBytesTaken, Fi_recent, Vi_sa, Vi_kb, Vi_ka, Vi_va, bz_sa, bz_kb, bz_ka, bz_va, nx_sa_kb, nx_sa_ka, nx_sa_va, nx_kb_ka, nx_kb_va, nx_ka_va⟩ := hQ80
              have g_sa : n0 ≤ sa := Nat.le_trans Z71 bz_sa
              have ne81 : t ≠ sa := Nat.ne_of_lt (Nat.lt_of_lt_of_le fq68.lt bz_sa)
              have ne82 : d ≠ sa := Nat.ne_of_lt (Nat.lt_of_lt_of_le fq69.lt bz_sa)
              have ne83 : nu ≠ sa := Nat.ne_of_lt (Nat.lt_of_lt_of_le fq70.lt bz_sa)
              have ne84 : a ≠ sa := Nat.ne_of_lt (Nat.lt_of_lt_of_le A64.lt bz_sa)
              have g_kb : n0 ≤ kb := Nat.le_trans Z71 bz_kb
              have ne85 : t ≠ kb := Nat.ne_of_lt (Nat.lt_of_lt_of_le fq68.lt bz_kb)
              have ne86 : d ≠ kb := Nat.ne_of_lt (Nat.lt_of_lt_of_le fq69.lt bz_kb)
              have ne87 : nu ≠ kb := Nat.ne_of_lt (Nat.lt_of_lt_of_le fq70.lt bz_kb)
              have ne88 : a ≠ kb := Nat.ne_of_lt (Nat.lt_of_lt_of_le A64.lt bz_kb)
              have g_ka : n0 ≤ ka := Nat.le_trans Z71 bz_ka
              have ne89 : t ≠ ka := Nat.ne_of_lt (Nat.lt_of_lt_of_le fq68.lt bz_ka)
              have ne90 : d ≠ ka := Nat.ne_of_lt (Nat.lt_of_lt_of_le fq69.lt bz_ka)
              have ne91 : nu ≠ ka := Nat.ne_of_lt (Nat.lt_of_lt_of_le fq70.lt bz_ka)
              have ne92 : a ≠ ka := Nat.ne_of_lt (Nat.lt_of_lt_of_le A64.lt bz_ka)
              have g_va : n0 ≤ va := Nat.le_trans Z71 bz_va
              have ne93 : t ≠ va := Nat.ne_of_lt (Nat.lt_of_lt_of_le fq68.lt bz_va)
              have ne94 : d ≠ va := Nat.ne_of_lt (Nat.lt_of_lt_of_le fq69.lt bz_va)
              have ne95 : nu ≠ va := Nat.ne_of_lt (Nat.lt_of_lt_of_le fq70.lt bz_va)
              have ne96 : a ≠ va := Nat.ne_of_lt (Nat.lt_of_lt_of_le A64.lt bz_va)
              have N80 := Fr.app N59 Nq80
              have fq97 := fq68.keep Kq80 (ninS ne65 nin0)
              have fq98 := fq69.keep Kq80 (ninS ne66 nin0)
              have fq99 := fq70.keep Kq80 (ninS ne67 nin0)
              have fq100 := A64.keep Kq80
              have Z101 : n0 ≤ T80.heap.size := Nat.le_trans Z71 Kq80.1
              show Ends p.tables e below (T80.setTop (mkF m 219 #[.val (.int y0), .val (.int y1), .val (.int y2), .val (.int y3), .val (.int y4), .val (.int y5), .val (.int (y0.toInt8.toInt32)), .val (.int ((y0 >>> ((8 : Int32) &&& 31)).toInt8.toInt32)), .val (.ref t), .val (.ref d), .val (.int cnt), .val (.ref nu), .unset, .unset, .unset, .unset, .unset, .unset] [(.ref a)])) _
              refine s_astore (pc' := 221) X80.here hx (l' := #[.val (.int y0), .val (.int y1), .val (.int y2), .val (.int y3), .val (.int y4), .val (.int y5), .val (.int (y0.toInt8.toInt32)), .val (.int ((y0 >>> ((8 : Int32) &&& 31)).toInt8.toInt32)), .val (.ref t), .val (.ref d), .val (.int cnt), .val (.ref nu), .val (.ref a), .unset, .unset, .unset, .unset, .unset]) (hb hby at_219) rfl rfl rfl ?_
              refine s_iconst (pc' := 222) X80.here hx (v := (0 : Int32)) (hb hby at_221) rfl rfl ?_
              refine s_istore (pc' := 224) X80.here hx (l' := #[.val (.int y0), .val (.int y1), .val (.int y2), .val (.int y3), .val (.int y4), .val (.int y5), .val (.int (y0.toInt8.toInt32)), .val (.int ((y0 >>> ((8 : Int32) &&& 31)).toInt8.toInt32)), .val (.ref t), .val (.ref d), .val (.int cnt), .val (.ref nu), .val (.ref a), .val (.int (0 : Int32)), .unset, .unset, .unset, .unset]) (hb hby at_222) rfl rfl ?_
              refine own_join (α := State × List Loc × Heap × List own_K × Nat × List Value × List Value × List Value × Int32 × Int32 × Int32 × Int32 × Int32 × Int32 × Int32) (fun ⟨TM102, LM102, hM102, es, b, S, K, B, kt, sz, rc, u0, u1, u2, nn⟩ => TM102.setTop (mkF m 345 #[.val (.int y0), .val (.int y1), .val (.int y2), .val (.int y3), .val (.int y4), .val (.int y5), .val (.int (y0.toInt8.toInt32)), .val (.int ((y0 >>> ((8 : Int32) &&& 31)).toInt8.toInt32)), .val (.ref t), .val (.ref d), .val (.int cnt), .val (.ref nu), .val (.ref a), .val (.int nn), .unset, .unset, .unset, .unset] [])) (fun ⟨TM102, LM102, hM102, es, b, S, K, B, kt, sz, rc, u0, u1, u2, nn⟩ => Stand p l e room_1 s m #[(.int y0), (.int y1), (.int y2), (.int y3), (.int y4), (.int y5)] below meth c TM102 LM102 8 485 ∧ TM102.heap = hM102 ∧ Fr n0 LM102 ∧ n0 ≤ hM102.size ∧ Exa Z hM102 a "com/example/vestbook/vestbook/FirstCopies" ∧ Fld Z hM102 a "com/example/vestbook/vestbook/FirstCopies" "slots" "[I" (.ref sa) ∧ Fld Z hM102 a "com/example/vestbook/vestbook/FirstCopies" "bits" "I" (.int (6 : Int32)) ∧ Fld Z hM102 a "com/example/vestbook/vestbook/FirstCopies" "keys" "[I" (.ref ka) ∧ Fld Z hM102 a "com/example/vestbook/vestbook/FirstCopies" "keyBytes" "[B" (.ref kb) ∧ Fld Z hM102 a "com/example/vestbook/vestbook/FirstCopies" "size" "I" (.int sz) ∧ Fld Z hM102 a "com/example/vestbook/vestbook/FirstCopies" "recent" "I" (.int rc) ∧ Arv Z hM102 sa ks .int (128 : Int32) S (.int (0 : Int32)) ∧ Arv Z hM102 ka kka .int (192 : Int32) K (.int (0 : Int32)) ∧ Arv Z hM102 kb kkb .byte (64 : Int32) B (.int (0 : Int32)) ∧ Arv Z hM102 t ka1 .byte (6 : Int32) tb (.int (0 : Int32)) ∧ Arv Z hM102 d ka22 .int (20 : Int32) ds (.int (0 : Int32)) ∧ Arv Z hM102 nu ka42 .int (3 : Int32) [(.int u0), (.int u1), (.int u2)] (.int (0 : Int32)) ∧ own_I S es b ∧ own_TB K B kt es ∧ kt.toInt ≤ 60 ∧ sz.toInt = (es.length : Int) ∧ 0 ≤ rc.toInt ∧ rc.toInt ≤ 3 ∧ own_R (own_A tb a1.toNatClampNeg a2.toNatClampNeg, own_A tb a3.toNatClampNeg a4.toNatClampNeg) (own_A tb b1.toNatClampNeg b2.toNatClampNeg, own_A tb b3.toNatClampNeg b4.toNatClampNeg) (own_A tb c1.toNatClampNeg c2.toNatClampNeg, own_A tb c3.toNatClampNeg c4.toNatClampNeg) es u0 u1 u2) (fun key => ?_) ?_
              · refine s_iload (pc' := 226) X80.here hx (hb hby at_224) rfl rfl ?_
                refine s_iconst (pc' := 227) X80.here hx (v := (1 : Int32)) (hb hby at_226) rfl rfl ?_
                by_cases hc1 : cnt < (1 : Int32)
                · refine s_icmpYes (pc' := 249) X80.here hx (hb hby at_227) (tlt hc1).1 (by decide) (by decide) ?_
                  refine s_iload (pc' := 251) X80.here hx (hb hby at_249) rfl rfl ?_
                  refine s_iconst (pc' := 252) X80.here hx (v := (2 : Int32)) (hb hby at_251) rfl rfl ?_
                  have hk103 : cnt < (2 : Int32) := Int32.lt_trans hc1 (by decide)
                  refine s_icmpYes (pc' := 286) X80.here hx (hb hby at_252) (tlt hk103).1 (by decide) (by decide) ?_
                  refine s_iload (pc' := 288) X80.here hx (hb hby at_286) rfl rfl ?_
                  refine s_iconst (pc' := 289) X80.here hx (v := (3 : Int32)) (hb hby at_288) rfl rfl ?_
                  have hk104 : cnt < (3 : Int32) := Int32.lt_trans hc1 (by decide)
                  refine s_icmpYes (pc' := 345) X80.here hx (hb hby at_289) (tlt hk104).1 (by decide) (by decide) ?_
                  obtain ⟨LL105, XLL105, NLL105⟩ : ∃ LL, Stand p l e room_1 s m #[(.int y0), (.int y1), (.int y2), (.int y3), (.int y4), (.int y5)] below meth c T80 LL 8 485 ∧ Fr n0 LL := ⟨_, X80, N80⟩
                  exact key (T80, LL105, T80.heap, ([] : List own_K), 0, (List.replicate 128 (.int (0 : Int32))), (List.replicate 192 (.int (0 : Int32))), (List.replicate 64 (.int (0 : Int32))), (0 : Int32), (0 : Int32), (0 : Int32), (-1 : Int32), (-1 : Int32), (-1 : Int32), (0 : Int32)) ⟨XLL105, rfl, NLL105, Z101, E_i, Fi_slots, Fi_bits, Fi_keys, Fi_keyBytes, Fi_size, Fi_recent, Vi_sa, Vi_ka, Vi_kb, fq97, fq98, fq99, ⟨own_Ibase, (own_Tbase _ _ _), (Int.le_trans (show (0 : Int32).toInt ≤ 0 from (by decide)) (by decide)), (by decide), by decide, by decide, own_R0 (own_I.uniq own_Ibase)⟩⟩
                · refine s_icmpNo (pc' := 230) X80.here hx (hb hby at_227) (flt hc1).1 rfl ?_
                  refine s_aload (pc' := 232) X80.here hx (hb hby at_230) rfl rfl rfl ?_
                  refine s_aload (pc' := 234) X80.here hx (hb hby at_232) rfl rfl rfl ?_
                  refine s_aload (pc' := 236) X80.here hx (hb hby at_234) rfl rfl rfl ?_
                  refine s_iconst (pc' := 237) X80.here hx (v := (0 : Int32)) (hb hby at_236) rfl rfl ?_
                  refine s_callS (pc' := 240) (W := 0) X80 hx hZ  hown (hw _ (List.mem_of_getElem? (i := 51) rfl)) (hw _ (List.mem_of_getElem? (i := 52) rfl)) (hw _ (List.mem_of_getElem? (i := 4) rfl)) (hw _ (List.mem_of_getElem? (i := 53) rfl)) (by decide) rfl (own_lk l Z a0 hw [] a t d (0 : Int32) ka1 tb a1 a2 a3 a4 sa ks (List.replicate 128 (.int (0 : Int32))) ([] : List own_K) 0 ka kb kka kkb (List.replicate 192 (.int (0 : Int32))) (List.replicate 64 (.int (0 : Int32))) (0 : Int32) va kv (0 : Int32) (0 : Int32) ka22 ds T80.heap n0 Z101 Fi_slots Fi_bits Vi_sa E_i Fi_keys Fi_keyBytes Vi_ka Vi_kb Fi_size Fi_recent fq97 Fi_values Fi_keyBytesTaken Vi_va g_a g_sa g_ka g_kb g_va (Ne.symm ne65) ne84 ne92 ne88 ne96 ne81 ne89 ne85 ne93 nx_sa_ka nx_sa_kb nx_sa_va (Ne.symm nx_kb_ka) nx_ka_va nx_kb_va own_Ibase (own_Tbase _ _ _) List.length_replicate List.length_replicate (Nat.le_of_ble_eq_true rfl) (Nat.le_of_ble_eq_true rfl) (by decide) (by decide) (Int.le_trans (show (0 : Int32).toInt ≤ 0 from (by decide)) (by decide)) Ba0 Bb0 own_new0 fq98 i0_0 v0_0 i0_1 v0_1 i0_2 v0_2 i0_3 v0_3) (by rw [hml]; rfl) [(.ref a), (.ref t), (.ref d), (.int (0 : Int32))] [] rfl (lenOf own_pd9 rfl) rfl (Nat.le_of_eq rfl) (by decide) (by decide) (by decide) (by decide) rfl (hb hby at_237) fun T106 v106 Lc106 X106 hQ106 => ?_
                  obtain ⟨Sp, Kp, Bp, ktp, rfl, Nq106, Kq106, Qp_0, Qp_1, Qp_2, Qp_3, Qp_4, Qp_5, Qp_6, Qp_7, Qp_8, Qp_9, Qp_10, Qp_11, Qp_12, Qp_13, Qp_14, Qp_15, Qp_16, Qp_17, Qp_18⟩ := hQ106
                  have N106 := Fr.app N80 Nq106
                  have fq107 := fq97.keep Kq106 (ninS ne65 (ninS ne81 (ninS ne89 (ninS ne85 (ninS ne93 nin0)))))
                  have fq108 := fq98.keep Kq106 (ninS ne66 (ninS ne82 (ninS ne90 (ninS ne86 (ninS ne94 nin0)))))
                  have fq109 := fq99.keep Kq106 (ninS ne67 (ninS ne83 (ninS ne91 (ninS ne87 (ninS ne95 nin0)))))
                  have fq110 := E_i.keep Kq106
                  have Z111 : n0 ≤ T106.heap.size := Nat.le_trans Z101 Kq106.1
                  show Ends p.tables e below (T106.setTop (mkF m 240 #[.val (.int y0), .val (.int y1), .val (.int y2), .val (.int y3), .val (.int y4), .val (.int y5), .val (.int (y0.toInt8.toInt32)), .val (.int ((y0 >>> ((8 : Int32) &&& 31)).toInt8.toInt32)), .val (.ref t), .val (.ref d), .val (.int cnt), .val (.ref nu), .val (.ref a), .val (.int (0 : Int32)), .unset, .unset, .unset, .unset] [])) _
                  have klp : ktp.toInt ≤ 4 := own_kt4 Qp_18 (show (0 : Int32).toInt ≤ 0 from (by decide)) (by decide)
                  have hsp : ((0 : Int32) + (1 : Int32)).toInt = ((([] : List own_K) ++ [(own_A tb a1.toNatClampNeg a2.toNatClampNeg, own_A tb a3.toNatClampNeg a4.toNatClampNeg)]).length : Int) := own_sz1 (show (0 : Int32).toInt = (([] : List own_K).length : Int) by decide) (Nat.le_of_ble_eq_true rfl)
                  refine s_aload (pc' := 242) X106.here hx (hb hby at_240) rfl rfl rfl ?_
                  refine s_iconst (pc' := 243) X106.here hx (v := (0 : Int32)) (hb hby at_242) rfl rfl ?_
                  refine s_iload (pc' := 245) X106.here hx (hb hby at_243) rfl rfl ?_
                  refine s_putI (pc' := 246) X106 hx hZ rfl fq109 ⟨by decide, by decide⟩ 0 rfl (Nat.le_of_ble_eq_true rfl) (hb hby at_245) rfl fun T112 hp112 X112 e112 W112 Vw112 => ?_
                  have V113 : Arv Z hp112 nu ka42 .int (3 : Int32) [(.int (0 : Int32)), (.int (-1 : Int32)), (.int (-1 : Int32))] (.int (0 : Int32)) := Vw112
                  have N112 := Fr.snoc X112 N106 g_nu
                  have fq114 := fq107.other W112 ne43
                  have fq115 := fq108.other W112 ne44
                  have fq116 := Qp_0.wr W112
                  have fq117 := Qp_1.other W112 (Or.inl (Ne.symm ne67))
                  have fq118 := Qp_2.other W112 (Or.inl (Ne.symm ne67))
                  have fq119 := Qp_3.other W112 (Or.inl (Ne.symm ne67))
                  have fq120 := Qp_4.other W112 (Or.inl (Ne.symm ne67))
                  have fq121 := Qp_5.other W112 (Or.inl (Ne.symm ne67))
                  have fq122 := Qp_6.other W112 (Or.inl (Ne.symm ne67))
                  have fq123 := Qp_7.other W112 (Or.inl (Ne.symm ne67))
                  have fq124 := Qp_8.other W112 (Or.inl (Ne.symm ne67))
                  have fq125 := Qp_9.other W112 (Ne.symm ne83)
                  have fq126 := Qp_10.other W112 (Ne.symm ne87)
                  have fq127 := Qp_11.other W112 (Ne.symm ne91)
                  have fq128 := Qp_12.other W112 (Ne.symm ne95)
                  have Z129 : n0 ≤ hp112.size := Nat.le_trans Z111 (Keep.of_wr W112).1
                  refine s_iinc (pc' := 249) X112.here hx (v := (1 : Int32)) (l' := #[.val (.int y0), .val (.int y1), .val (.int y2), .val (.int y3), .val (.int y4), .val (.int y5), .val (.int (y0.toInt8.toInt32)), .val (.int ((y0 >>> ((8 : Int32) &&& 31)).toInt8.toInt32)), .val (.ref t), .val (.ref d), .val (.int cnt), .val (.ref nu), .val (.ref a), .val (.int ((0 : Int32) + (1 : Int32))), .unset, .unset, .unset, .unset]) (hb hby at_246) rfl rfl rfl rfl ?_
                  rw [show ((0 : Int32) + (1 : Int32)) = (1 : Int32) from by decide]
                  refine s_iload (pc' := 251) X112.here hx (hb hby at_249) rfl rfl ?_
                  refine s_iconst (pc' := 252) X112.here hx (v := (2 : Int32)) (hb hby at_251) rfl rfl ?_
                  by_cases hc2 : cnt < (2 : Int32)
                  · refine s_icmpYes (pc' := 286) X112.here hx (hb hby at_252) (tlt hc2).1 (by decide) (by decide) ?_
                    refine s_iload (pc' := 288) X112.here hx (hb hby at_286) rfl rfl ?_
                    refine s_iconst (pc' := 289) X112.here hx (v := (3 : Int32)) (hb hby at_288) rfl rfl ?_
                    have hk130 : cnt < (3 : Int32) := Int32.lt_trans hc2 (by decide)
                    refine s_icmpYes (pc' := 345) X112.here hx (hb hby at_289) (tlt hk130).1 (by decide) (by decide) ?_
                    obtain ⟨LL131, XLL131, NLL131⟩ : ∃ LL, Stand p l e room_1 s m #[(.int y0), (.int y1), (.int y2), (.int y3), (.int y4), (.int y5)] below meth c T112 LL 8 485 ∧ Fr n0 LL := ⟨_, X112, N112⟩
                    exact key (T112, LL131, hp112, (([] : List own_K) ++ [(own_A tb a1.toNatClampNeg a2.toNatClampNeg, own_A tb a3.toNatClampNeg a4.toNatClampNeg)]), (2 * 0 + 1), Sp, Kp, Bp, ktp, ((0 : Int32) + (1 : Int32)), (0 : Int32), (0 : Int32), (-1 : Int32), (-1 : Int32), (1 : Int32)) ⟨XLL131, e112, NLL131, Z129, fq116, fq117, fq118, fq120, fq119, fq122, fq124, fq125, fq127, fq126, fq114, fq115, V113, ⟨Qp_13, Qp_14, (Int.le_trans (show ktp.toInt ≤ 4 from klp) (by decide)), hsp, by decide, by decide, own_R1 (own_I.uniq Qp_13)⟩⟩
                  · refine s_icmpNo (pc' := 255) X112.here hx (hb hby at_252) (flt hc2).1 rfl ?_
                    refine s_aload (pc' := 257) X112.here hx (hb hby at_255) rfl rfl rfl ?_
                    refine s_aload (pc' := 259) X112.here hx (hb hby at_257) rfl rfl rfl ?_
                    refine s_iconst (pc' := 260) X112.here hx (v := (0 : Int32)) (hb hby at_259) rfl rfl ?_
                    refine s_iconst (pc' := 261) X112.here hx (v := (4 : Int32)) (hb hby at_260) rfl rfl ?_
                    obtain ⟨ga, g01a, hga⟩ := own_pick (own_A tb a1.toNatClampNeg a2.toNatClampNeg = own_A tb b1.toNatClampNeg b2.toNatClampNeg ∧ own_A tb a3.toNatClampNeg a4.toNatClampNeg = own_A tb b3.toNatClampNeg b4.toNatClampNeg)
                    refine s_callS (pc' := 264) (W := 0) X112 hx hZ  hown (hw _ (List.mem_of_getElem? (i := 69) rfl)) (hw _ (List.mem_of_getElem? (i := 70) rfl)) (hw _ (List.mem_of_getElem? (i := 4) rfl)) (hw _ (List.mem_of_getElem? (i := 71) rfl)) (by decide) e112 (own_eqk l Z a0 hw [] t d (0 : Int32) (4 : Int32) ka1 tb ka22 ds a1 a2 a3 a4 b1 b2 b3 b4 ga hp112 n0 Z129 fq114 fq115 i0_0 v0_0 i0_1 v0_1 i0_2 v0_2 i0_3 v0_3 i1_0 v1_0 i1_1 v1_1 i1_2 v1_2 i1_3 v1_3 Ba0 Bb0 Ba1 Bb1 g01a hga) (by rw [hml]; rfl) [(.ref t), (.ref d), (.int (0 : Int32)), (.int (4 : Int32))] [] rfl (lenOf own_pd6 rfl) rfl (Nat.le_of_eq rfl) (by decide) (by decide) (by decide) (by decide) rfl (hb hby at_261) fun T132 v132 Lc132 X132 hQ132 => ?_
                    obtain ⟨rfl, Nq132, eh132⟩ := hQ132
                    have N132 := Fr.app N112 Nq132
                    show Ends p.tables e below (T132.setTop (mkF m 264 #[.val (.int y0), .val (.int y1), .val (.int y2), .val (.int y3), .val (.int y4), .val (.int y5), .val (.int (y0.toInt8.toInt32)), .val (.int ((y0 >>> ((8 : Int32) &&& 31)).toInt8.toInt32)), .val (.ref t), .val (.ref d), .val (.int cnt), .val (.ref nu), .val (.ref a), .val (.int (1 : Int32)), .unset, .unset, .unset, .unset] [(.int ga)])) _
                    by_cases hza : ga = (0 : Int32)
                    · refine s_ifNo (pc' := 267) X132.here hx (hb hby at_264) ((if0 _ _).trans (teq hza).2) rfl ?_
                      have nka : ¬ (own_A tb a1.toNatClampNeg a2.toNatClampNeg, own_A tb a3.toNatClampNeg a4.toNatClampNeg) = (own_A tb b1.toNatClampNeg b2.toNatClampNeg, own_A tb b3.toNatClampNeg b4.toNatClampNeg) := fun q_ => absurd (hga.mpr (own_pe.mp q_)) (by rw [hza]; decide)
                      refine s_aload (pc' := 269) X132.here hx (hb hby at_267) rfl rfl rfl ?_
                      refine s_aload (pc' := 271) X132.here hx (hb hby at_269) rfl rfl rfl ?_
                      refine s_aload (pc' := 273) X132.here hx (hb hby at_271) rfl rfl rfl ?_
                      refine s_iconst (pc' := 274) X132.here hx (v := (4 : Int32)) (hb hby at_273) rfl rfl ?_
                      refine s_callS (pc' := 277) (W := 0) X132 hx hZ  hown (hw _ (List.mem_of_getElem? (i := 51) rfl)) (hw _ (List.mem_of_getElem? (i := 52) rfl)) (hw _ (List.mem_of_getElem? (i := 4) rfl)) (hw _ (List.mem_of_getElem? (i := 53) rfl)) (by decide) eh132 (own_lk l Z a0 hw [] a t d (4 : Int32) ka1 tb b1 b2 b3 b4 sa ks Sp (([] : List own_K) ++ [(own_A tb a1.toNatClampNeg a2.toNatClampNeg, own_A tb a3.toNatClampNeg a4.toNatClampNeg)]) (2 * 0 + 1) ka kb kka kkb Kp Bp ktp va kv ((0 : Int32) + (1 : Int32)) (0 : Int32) ka22 ds hp112 n0 Z129 fq117 fq118 fq125 fq116 fq120 fq119 fq127 fq126 fq122 fq124 fq114 fq121 fq123 fq128 g_a g_sa g_ka g_kb g_va (Ne.symm ne65) ne84 ne92 ne88 ne96 ne81 ne89 ne85 ne93 nx_sa_ka nx_sa_kb nx_sa_va (Ne.symm nx_kb_ka) nx_ka_va nx_kb_va Qp_13 Qp_14 Qp_15 Qp_16 (Nat.le_of_ble_eq_true rfl) (Nat.le_of_ble_eq_true rfl) hsp Qp_17 (Int.le_trans (show ktp.toInt ≤ 4 from klp) (by decide)) Ba1 Bb1 (own_newS own_new0 nka) fq115 i1_0 v1_0 i1_1 v1_1 i1_2 v1_2 i1_3 v1_3) (by rw [hml]; rfl) [(.ref a), (.ref t), (.ref d), (.int (4 : Int32))] [] rfl (lenOf own_pd9 rfl) rfl (Nat.le_of_eq rfl) (by decide) (by decide) (by decide) (by decide) rfl (hb hby at_274) fun T162 v162 Lc162 X162 hQ162 => ?_
                      obtain ⟨Sq, Kq, Bq, ktq, rfl, Nq162, Kq162, Qq_0, Qq_1, Qq_2, Qq_3, Qq_4, Qq_5, Qq_6, Qq_7, Qq_8, Qq_9, Qq_10, Qq_11, Qq_12, Qq_13, Qq_14, Qq_15, Qq_16, Qq_17, Qq_18⟩ := hQ162
                      have N162 := Fr.app N132 Nq162
                      have fq163 := fq114.keep Kq162 (ninS ne65 (ninS ne81 (ninS ne89 (ninS ne85 (ninS ne93 nin0)))))
                      have fq164 := fq115.keep Kq162 (ninS ne66 (ninS ne82 (ninS ne90 (ninS ne86 (ninS ne94 nin0)))))
                      have fq165 := fq116.keep Kq162
                      have fq166 := V113.keep Kq162 (ninS ne67 (ninS ne83 (ninS ne91 (ninS ne87 (ninS ne95 nin0)))))
                      have Z167 : n0 ≤ T162.heap.size := Nat.le_trans Z129 Kq162.1
                      show Ends p.tables e below (T162.setTop (mkF m 277 #[.val (.int y0), .val (.int y1), .val (.int y2), .val (.int y3), .val (.int y4), .val (.int y5), .val (.int (y0.toInt8.toInt32)), .val (.int ((y0 >>> ((8 : Int32) &&& 31)).toInt8.toInt32)), .val (.ref t), .val (.ref d), .val (.int cnt), .val (.ref nu), .val (.ref a), .val (.int (1 : Int32)), .unset, .unset, .unset, .unset] [])) _
                      have klq : ktq.toInt ≤ 8 := own_kt4 Qq_18 (show ktp.toInt ≤ 4 from klp) (by decide)
                      have hsq : (((0 : Int32) + (1 : Int32)) + (1 : Int32)).toInt = (((([] : List own_K) ++ [(own_A tb a1.toNatClampNeg a2.toNatClampNeg, own_A tb a3.toNatClampNeg a4.toNatClampNeg)]) ++ [(own_A tb b1.toNatClampNeg b2.toNatClampNeg, own_A tb b3.toNatClampNeg b4.toNatClampNeg)]).length : Int) := own_sz1 hsp (Nat.le_of_ble_eq_true rfl)
                      refine s_aload (pc' := 279) X162.here hx (hb hby at_277) rfl rfl rfl ?_
                      refine s_iconst (pc' := 280) X162.here hx (v := (1 : Int32)) (hb hby at_279) rfl rfl ?_
                      refine s_iload (pc' := 282) X162.here hx (hb hby at_280) rfl rfl ?_
                      refine s_putI (pc' := 283) X162 hx hZ rfl fq166 ⟨by decide, by decide⟩ 1 rfl (Nat.le_of_ble_eq_true rfl) (hb hby at_282) rfl fun T168 hp168 X168 e168 W168 Vw168 => ?_
                      have V169 : Arv Z hp168 nu ka42 .int (3 : Int32) [(.int (0 : Int32)), (.int (1 : Int32)), (.int (-1 : Int32))] (.int (0 : Int32)) := Vw168
                      have N168 := Fr.snoc X168 N162 g_nu
                      have fq170 := fq163.other W168 ne43
                      have fq171 := fq164.other W168 ne44
                      have fq172 := Qq_0.wr W168
                      have fq173 := Qq_1.other W168 (Or.inl (Ne.symm ne67))
                      have fq174 := Qq_2.other W168 (Or.inl (Ne.symm ne67))
                      have fq175 := Qq_3.other W168 (Or.inl (Ne.symm ne67))
                      have fq176 := Qq_4.other W168 (Or.inl (Ne.symm ne67))
                      have fq177 := Qq_5.other W168 (Or.inl (Ne.symm ne67))
                      have fq178 := Qq_6.other W168 (Or.inl (Ne.symm ne67))
                      have fq179 := Qq_7.other W168 (Or.inl (Ne.symm ne67))
                      have fq180 := Qq_8.other W168 (Or.inl (Ne.symm ne67))
                      have fq181 := Qq_9.other W168 (Ne.symm ne83)
                      have fq182 := Qq_10.other W168 (Ne.symm ne87)
                      have fq183 := Qq_11.other W168 (Ne.symm ne91)
                      have fq184 := Qq_12.other W168 (Ne.symm ne95)
                      have Z185 : n0 ≤ hp168.size := Nat.le_trans Z167 (Keep.of_wr W168).1
                      refine s_iinc (pc' := 286) X168.here hx (v := (1 : Int32)) (l' := #[.val (.int y0), .val (.int y1), .val (.int y2), .val (.int y3), .val (.int y4), .val (.int y5), .val (.int (y0.toInt8.toInt32)), .val (.int ((y0 >>> ((8 : Int32) &&& 31)).toInt8.toInt32)), .val (.ref t), .val (.ref d), .val (.int cnt), .val (.ref nu), .val (.ref a), .val (.int ((1 : Int32) + (1 : Int32))), .unset, .unset, .unset, .unset]) (hb hby at_283) rfl rfl rfl rfl ?_
                      rw [show ((1 : Int32) + (1 : Int32)) = (2 : Int32) from by decide]
                      refine s_iload (pc' := 288) X168.here hx (hb hby at_286) rfl rfl ?_
                      refine s_iconst (pc' := 289) X168.here hx (v := (3 : Int32)) (hb hby at_288) rfl rfl ?_
                      by_cases hc3 : cnt < (3 : Int32)
                      · refine s_icmpYes (pc' := 345) X168.here hx (hb hby at_289) (tlt hc3).1 (by decide) (by decide) ?_
                        obtain ⟨LL186, XLL186, NLL186⟩ : ∃ LL, Stand p l e room_1 s m #[(.int y0), (.int y1), (.int y2), (.int y3), (.int y4), (.int y5)] below meth c T168 LL 8 485 ∧ Fr n0 LL := ⟨_, X168, N168⟩
                        exact key (T168, LL186, hp168, ((([] : List own_K) ++ [(own_A tb a1.toNatClampNeg a2.toNatClampNeg, own_A tb a3.toNatClampNeg a4.toNatClampNeg)]) ++ [(own_A tb b1.toNatClampNeg b2.toNatClampNeg, own_A tb b3.toNatClampNeg b4.toNatClampNeg)]), (2 * (2 * 0 + 1) + 1), Sq, Kq, Bq, ktq, (((0 : Int32) + (1 : Int32)) + (1 : Int32)), ((0 : Int32) + (1 : Int32)), (0 : Int32), (1 : Int32), (-1 : Int32), (2 : Int32)) ⟨XLL186, e168, NLL186, Z185, fq172, fq173, fq174, fq176, fq175, fq178, fq180, fq181, fq183, fq182, fq170, fq171, V169, ⟨Qq_13, Qq_14, (Int.le_trans (show ktq.toInt ≤ 8 from klq) (by decide)), hsq, by decide, by decide, own_R2 (own_I.uniq Qq_13)⟩⟩
                      · refine s_icmpNo (pc' := 292) X168.here hx (hb hby at_289) (flt hc3).1 rfl ?_
                        refine s_aload (pc' := 294) X168.here hx (hb hby at_292) rfl rfl rfl ?_
                        refine s_aload (pc' := 296) X168.here hx (hb hby at_294) rfl rfl rfl ?_
                        refine s_iconst (pc' := 297) X168.here hx (v := (0 : Int32)) (hb hby at_296) rfl rfl ?_
                        refine s_bipush (pc' := 299) X168.here hx (v := (8 : Int32)) (hb hby at_297) rfl rfl ?_
                        obtain ⟨gzb, g01zb, hgzb⟩ := own_pick (own_A tb a1.toNatClampNeg a2.toNatClampNeg = own_A tb c1.toNatClampNeg c2.toNatClampNeg ∧ own_A tb a3.toNatClampNeg a4.toNatClampNeg = own_A tb c3.toNatClampNeg c4.toNatClampNeg)
                        refine s_callS (pc' := 302) (W := 0) X168 hx hZ  hown (hw _ (List.mem_of_getElem? (i := 69) rfl)) (hw _ (List.mem_of_getElem? (i := 70) rfl)) (hw _ (List.mem_of_getElem? (i := 4) rfl)) (hw _ (List.mem_of_getElem? (i := 71) rfl)) (by decide) e168 (own_eqk l Z a0 hw [] t d (0 : Int32) (8 : Int32) ka1 tb ka22 ds a1 a2 a3 a4 c1 c2 c3 c4 gzb hp168 n0 Z185 fq170 fq171 i0_0 v0_0 i0_1 v0_1 i0_2 v0_2 i0_3 v0_3 i2_0 v2_0 i2_1 v2_1 i2_2 v2_2 i2_3 v2_3 Ba0 Bb0 Ba2 Bb2 g01zb hgzb) (by rw [hml]; rfl) [(.ref t), (.ref d), (.int (0 : Int32)), (.int (8 : Int32))] [] rfl (lenOf own_pd6 rfl) rfl (Nat.le_of_eq rfl) (by decide) (by decide) (by decide) (by decide) rfl (hb hby at_299) fun T187 v187 Lc187 X187 hQ187 => ?_
                        obtain ⟨rfl, Nq187, eh187⟩ := hQ187
                        have N187 := Fr.app N168 Nq187
                        show Ends p.tables e below (T187.setTop (mkF m 302 #[.val (.int y0), .val (.int y1), .val (.int y2), .val (.int y3), .val (.int y4), .val (.int y5), .val (.int (y0.toInt8.toInt32)), .val (.int ((y0 >>> ((8 : Int32) &&& 31)).toInt8.toInt32)), .val (.ref t), .val (.ref d), .val (.int cnt), .val (.ref nu), .val (.ref a), .val (.int (2 : Int32)), .unset, .unset, .unset, .unset] [(.int gzb)])) _
                        by_cases hzzb : gzb = (0 : Int32)
                        · refine s_ifNo (pc' := 305) X187.here hx (hb hby at_302) ((if0 _ _).trans (teq hzzb).2) rfl ?_
                          have nkzb : ¬ (own_A tb a1.toNatClampNeg a2.toNatClampNeg, own_A tb a3.toNatClampNeg a4.toNatClampNeg) = (own_A tb c1.toNatClampNeg c2.toNatClampNeg, own_A tb c3.toNatClampNeg c4.toNatClampNeg) := fun q_ => absurd (hgzb.mpr (own_pe.mp q_)) (by rw [hzzb]; decide)
                          refine s_aload (pc' := 307) X187.here hx (hb hby at_305) rfl rfl rfl ?_
                          refine s_iconst (pc' := 308) X187.here hx (v := (1 : Int32)) (hb hby at_307) rfl rfl ?_
                          refine s_iaload (pc' := 309) (v := (.int (1 : Int32))) X187 hx hZ eh187 V169 ⟨by decide, by decide⟩ rfl (hb hby at_308) rfl ?_
                          have hk189 : ¬ ((1 : Int32) < (0 : Int32)) := by decide
                          refine s_ifNo (pc' := 312) X187.here hx (hb hby at_309) ((if0 _ _).trans (flt hk189).1) rfl ?_
                          refine s_aload (pc' := 314) X187.here hx (hb hby at_312) rfl rfl rfl ?_
                          refine s_aload (pc' := 316) X187.here hx (hb hby at_314) rfl rfl rfl ?_
                          refine s_iconst (pc' := 317) X187.here hx (v := (4 : Int32)) (hb hby at_316) rfl rfl ?_
                          refine s_bipush (pc' := 319) X187.here hx (v := (8 : Int32)) (hb hby at_317) rfl rfl ?_
                          obtain ⟨gzc, g01zc, hgzc⟩ := own_pick (own_A tb b1.toNatClampNeg b2.toNatClampNeg = own_A tb c1.toNatClampNeg c2.toNatClampNeg ∧ own_A tb b3.toNatClampNeg b4.toNatClampNeg = own_A tb c3.toNatClampNeg c4.toNatClampNeg)
                          refine s_callS (pc' := 322) (W := 0) X187 hx hZ  hown (hw _ (List.mem_of_getElem? (i := 69) rfl)) (hw _ (List.mem_of_getElem? (i := 70) rfl)) (hw _ (List.mem_of_getElem? (i := 4) rfl)) (hw _ (List.mem_of_getElem? (i := 71) rfl)) (by decide) eh187 (own_eqk l Z a0 hw [] t d (4 : Int32) (8 : Int32) ka1 tb ka22 ds b1 b2 b3 b4 c1 c2 c3 c4 gzc hp168 n0 Z185 fq170 fq171 i1_0 v1_0 i1_1 v1_1 i1_2 v1_2 i1_3 v1_3 i2_0 v2_0 i2_1 v2_1 i2_2 v2_2 i2_3 v2_3 Ba1 Bb1 Ba2 Bb2 g01zc hgzc) (by rw [hml]; rfl) [(.ref t), (.ref d), (.int (4 : Int32)), (.int (8 : Int32))] [] rfl (lenOf own_pd6 rfl) rfl (Nat.le_of_eq rfl) (by decide) (by decide) (by decide) (by decide) rfl (hb hby at_319) fun T190 v190 Lc190 X190 hQ190 => ?_
                          obtain ⟨rfl, Nq190, eh190⟩ := hQ190
                          have N190 := Fr.app N187 Nq190
                          show Ends p.tables e below (T190.setTop (mkF m 322 #[.val (.int y0), .val (.int y1), .val (.int y2), .val (.int y3), .val (.int y4), .val (.int y5), .val (.int (y0.toInt8.toInt32)), .val (.int ((y0 >>> ((8 : Int32) &&& 31)).toInt8.toInt32)), .val (.ref t), .val (.ref d), .val (.int cnt), .val (.ref nu), .val (.ref a), .val (.int (2 : Int32)), .unset, .unset, .unset, .unset] [(.int gzc)])) _
                          by_cases hzzc : gzc = (0 : Int32)
                          · refine s_ifNo (pc' := 325) X190.here hx (hb hby at_322) ((if0 _ _).trans (teq hzzc).2) rfl ?_
                            have nkzc : ¬ (own_A tb b1.toNatClampNeg b2.toNatClampNeg, own_A tb b3.toNatClampNeg b4.toNatClampNeg) = (own_A tb c1.toNatClampNeg c2.toNatClampNeg, own_A tb c3.toNatClampNeg c4.toNatClampNeg) := fun q_ => absurd (hgzc.mpr (own_pe.mp q_)) (by rw [hzzc]; decide)
                            refine s_aload (pc' := 327) X190.here hx (hb hby at_325) rfl rfl rfl ?_
                            refine s_aload (pc' := 329) X190.here hx (hb hby at_327) rfl rfl rfl ?_
                            refine s_aload (pc' := 331) X190.here hx (hb hby at_329) rfl rfl rfl ?_
                            refine s_bipush (pc' := 333) X190.here hx (v := (8 : Int32)) (hb hby at_331) rfl rfl ?_
                            refine s_callS (pc' := 336) (W := 0) X190 hx hZ  hown (hw _ (List.mem_of_getElem? (i := 51) rfl)) (hw _ (List.mem_of_getElem? (i := 52) rfl)) (hw _ (List.mem_of_getElem? (i := 4) rfl)) (hw _ (List.mem_of_getElem? (i := 53) rfl)) (by decide) eh190 (own_lk l Z a0 hw [] a t d (8 : Int32) ka1 tb c1 c2 c3 c4 sa ks Sq ((([] : List own_K) ++ [(own_A tb a1.toNatClampNeg a2.toNatClampNeg, own_A tb a3.toNatClampNeg a4.toNatClampNeg)]) ++ [(own_A tb b1.toNatClampNeg b2.toNatClampNeg, own_A tb b3.toNatClampNeg b4.toNatClampNeg)]) (2 * (2 * 0 + 1) + 1) ka kb kka kkb Kq Bq ktq va kv (((0 : Int32) + (1 : Int32)) + (1 : Int32)) ((0 : Int32) + (1 : Int32)) ka22 ds hp168 n0 Z185 fq173 fq174 fq181 fq172 fq176 fq175 fq183 fq182 fq178 fq180 fq170 fq177 fq179 fq184 g_a g_sa g_ka g_kb g_va (Ne.symm ne65) ne84 ne92 ne88 ne96 ne81 ne89 ne85 ne93 nx_sa_ka nx_sa_kb nx_sa_va (Ne.symm nx_kb_ka) nx_ka_va nx_kb_va Qq_13 Qq_14 Qq_15 Qq_16 (Nat.le_of_ble_eq_true rfl) (Nat.le_of_ble_eq_true rfl) hsq Qq_17 (Int.le_trans (show ktq.toInt ≤ 8 from klq) (by decide)) Ba2 Bb2 (own_newS (own_newS own_new0 nkzb) nkzc) fq171 i2_0 v2_0 i2_1 v2_1 i2_2 v2_2 i2_3 v2_3) (by rw [hml]; rfl) [(.ref a), (.ref t), (.ref d), (.int (8 : Int32))] [] rfl (lenOf own_pd9 rfl) rfl (Nat.le_of_eq rfl) (by decide) (by decide) (by decide) (by decide) rfl (hb hby at_333) fun T192 v192 Lc192 X192 hQ192 => ?_
                            obtain ⟨Szk, Kzk, Bzk, ktzk, rfl, Nq192, Kq192, Qzk_0, Qzk_1, Qzk_2, Qzk_3, Qzk_4, Qzk_5, Qzk_6, Qzk_7, Qzk_8, Qzk_9, Qzk_10, Qzk_11, Qzk_12, Qzk_13, Qzk_14, Qzk_15, Qzk_16, Qzk_17, Qzk_18⟩ := hQ192
                            have N192 := Fr.app N190 Nq192
                            have fq193 := fq170.keep Kq192 (ninS ne65 (ninS ne81 (ninS ne89 (ninS ne85 (ninS ne93 nin0)))))
                            have fq194 := fq171.keep Kq192 (ninS ne66 (ninS ne82 (ninS ne90 (ninS ne86 (ninS ne94 nin0)))))
                            have fq195 := fq172.keep Kq192
                            have fq196 := V169.keep Kq192 (ninS ne67 (ninS ne83 (ninS ne91 (ninS ne87 (ninS ne95 nin0)))))
                            have Z197 : n0 ≤ T192.heap.size := Nat.le_trans Z185 Kq192.1
                            show Ends p.tables e below (T192.setTop (mkF m 336 #[.val (.int y0), .val (.int y1), .val (.int y2), .val (.int y3), .val (.int y4), .val (.int y5), .val (.int (y0.toInt8.toInt32)), .val (.int ((y0 >>> ((8 : Int32) &&& 31)).toInt8.toInt32)), .val (.ref t), .val (.ref d), .val (.int cnt), .val (.ref nu), .val (.ref a), .val (.int (2 : Int32)), .unset, .unset, .unset, .unset] [])) _
                            have klzk : ktzk.toInt ≤ 12 := own_kt4 Qzk_18 (show ktq.toInt ≤ 8 from klq) (by decide)
                            have hszk : ((((0 : Int32) + (1 : Int32)) + (1 : Int32)) + (1 : Int32)).toInt = ((((([] : List own_K) ++ [(own_A tb a1.toNatClampNeg a2.toNatClampNeg, own_A tb a3.toNatClampNeg a4.toNatClampNeg)]) ++ [(own_A tb b1.toNatClampNeg b2.toNatClampNeg, own_A tb b3.toNatClampNeg b4.toNatClampNeg)]) ++ [(own_A tb c1.toNatClampNeg c2.toNatClampNeg, own_A tb c3.toNatClampNeg c4.toNatClampNeg)]).length : Int) := own_sz1 hsq (Nat.le_of_ble_eq_true rfl)
                            refine s_aload (pc' := 338) X192.here hx (hb hby at_336) rfl rfl rfl ?_
                            refine s_iconst (pc' := 339) X192.here hx (v := (2 : Int32)) (hb hby at_338) rfl rfl ?_
                            refine s_iload (pc' := 341) X192.here hx (hb hby at_339) rfl rfl ?_
                            refine s_putI (pc' := 342) X192 hx hZ rfl fq196 ⟨by decide, by decide⟩ 2 rfl (Nat.le_of_ble_eq_true rfl) (hb hby at_341) rfl fun T198 hp198 X198 e198 W198 Vw198 => ?_
                            have V199 : Arv Z hp198 nu ka42 .int (3 : Int32) [(.int (0 : Int32)), (.int (1 : Int32)), (.int (2 : Int32))] (.int (0 : Int32)) := Vw198
                            have N198 := Fr.snoc X198 N192 g_nu
                            have fq200 := fq193.other W198 ne43
                            have fq201 := fq194.other W198 ne44
                            have fq202 := Qzk_0.wr W198
                            have fq203 := Qzk_1.other W198 (Or.inl (Ne.symm ne67))
                            have fq204 := Qzk_2.other W198 (Or.inl (Ne.symm ne67))
                            have fq205 := Qzk_3.other W198 (Or.inl (Ne.symm ne67))
                            have fq206 := Qzk_4.other W198 (Or.inl (Ne.symm ne67))
                            have fq207 := Qzk_5.other W198 (Or.inl (Ne.symm ne67))
                            have fq208 := Qzk_6.other W198 (Or.inl (Ne.symm ne67))
                            have fq209 := Qzk_7.other W198 (Or.inl (Ne.symm ne67))
                            have fq210 := Qzk_8.other W198 (Or.inl (Ne.symm ne67))
                            have fq211 := Qzk_9.other W198 (Ne.symm ne83)
                            have fq212 := Qzk_10.other W198 (Ne.symm ne87)
                            have fq213 := Qzk_11.other W198 (Ne.symm ne91)
                            have fq214 := Qzk_12.other W198 (Ne.symm ne95)
                            have Z215 : n0 ≤ hp198.size := Nat.le_trans Z197 (Keep.of_wr W198).1
                            refine s_iinc (pc' := 345) X198.here hx (v := (1 : Int32)) (l' := #[.val (.int y0), .val (.int y1), .val (.int y2), .val (.int y3), .val (.int y4), .val (.int y5), .val (.int (y0.toInt8.toInt32)), .val (.int ((y0 >>> ((8 : Int32) &&& 31)).toInt8.toInt32)), .val (.ref t), .val (.ref d), .val (.int cnt), .val (.ref nu), .val (.ref a), .val (.int ((2 : Int32) + (1 : Int32))), .unset, .unset, .unset, .unset]) (hb hby at_342) rfl rfl rfl rfl ?_
                            rw [show ((2 : Int32) + (1 : Int32)) = (3 : Int32) from by decide]
                            obtain ⟨LL216, XLL216, NLL216⟩ : ∃ LL, Stand p l e room_1 s m #[(.int y0), (.int y1), (.int y2), (.int y3), (.int y4), (.int y5)] below meth c T198 LL 8 485 ∧ Fr n0 LL := ⟨_, X198, N198⟩
                            exact key (T198, LL216, hp198, (((([] : List own_K) ++ [(own_A tb a1.toNatClampNeg a2.toNatClampNeg, own_A tb a3.toNatClampNeg a4.toNatClampNeg)]) ++ [(own_A tb b1.toNatClampNeg b2.toNatClampNeg, own_A tb b3.toNatClampNeg b4.toNatClampNeg)]) ++ [(own_A tb c1.toNatClampNeg c2.toNatClampNeg, own_A tb c3.toNatClampNeg c4.toNatClampNeg)]), (2 * (2 * (2 * 0 + 1) + 1) + 1), Szk, Kzk, Bzk, ktzk, ((((0 : Int32) + (1 : Int32)) + (1 : Int32)) + (1 : Int32)), (((0 : Int32) + (1 : Int32)) + (1 : Int32)), (0 : Int32), (1 : Int32), (2 : Int32), (3 : Int32)) ⟨XLL216, e198, NLL216, Z215, fq202, fq203, fq204, fq206, fq205, fq208, fq210, fq211, fq213, fq212, fq200, fq201, V199, ⟨Qzk_13, Qzk_14, (Int.le_trans (show ktzk.toInt ≤ 12 from klzk) (by decide)), hszk, by decide, by decide, own_R4 (own_I.uniq Qzk_13)⟩⟩
                          · refine s_ifYes (pc' := 345) X190.here hx (hb hby at_322) ((if0 _ _).trans (feq hzzc).2) (by decide) (by decide) ?_
                            have ykzc : (own_A tb b1.toNatClampNeg b2.toNatClampNeg, own_A tb b3.toNatClampNeg b4.toNatClampNeg) = (own_A tb c1.toNatClampNeg c2.toNatClampNeg, own_A tb c3.toNatClampNeg c4.toNatClampNeg) := own_pe.mpr (hgzc.mp (g01zc.resolve_left hzzc))
                            obtain ⟨LL191, XLL191, NLL191⟩ : ∃ LL, Stand p l e room_1 s m #[(.int y0), (.int y1), (.int y2), (.int y3), (.int y4), (.int y5)] below meth c T190 LL 8 485 ∧ Fr n0 LL := ⟨_, X190, N190⟩
                            exact key (T190, LL191, hp168, ((([] : List own_K) ++ [(own_A tb a1.toNatClampNeg a2.toNatClampNeg, own_A tb a3.toNatClampNeg a4.toNatClampNeg)]) ++ [(own_A tb b1.toNatClampNeg b2.toNatClampNeg, own_A tb b3.toNatClampNeg b4.toNatClampNeg)]), (2 * (2 * 0 + 1) + 1), Sq, Kq, Bq, ktq, (((0 : Int32) + (1 : Int32)) + (1 : Int32)), ((0 : Int32) + (1 : Int32)), (0 : Int32), (1 : Int32), (-1 : Int32), (2 : Int32)) ⟨XLL191, eh190, NLL191, Z185, fq172, fq173, fq174, fq176, fq175, fq178, fq180, fq181, fq183, fq182, fq170, fq171, V169, ⟨Qq_13, Qq_14, (Int.le_trans (show ktq.toInt ≤ 8 from klq) (by decide)), hsq, by decide, by decide, own_R2 (own_I.uniq Qq_13)⟩⟩
                        · refine s_ifYes (pc' := 345) X187.here hx (hb hby at_302) ((if0 _ _).trans (feq hzzb).2) (by decide) (by decide) ?_
                          have ykzb : (own_A tb a1.toNatClampNeg a2.toNatClampNeg, own_A tb a3.toNatClampNeg a4.toNatClampNeg) = (own_A tb c1.toNatClampNeg c2.toNatClampNeg, own_A tb c3.toNatClampNeg c4.toNatClampNeg) := own_pe.mpr (hgzb.mp (g01zb.resolve_left hzzb))
                          obtain ⟨LL188, XLL188, NLL188⟩ : ∃ LL, Stand p l e room_1 s m #[(.int y0), (.int y1), (.int y2), (.int y3), (.int y4), (.int y5)] below meth c T187 LL 8 485 ∧ Fr n0 LL := ⟨_, X187, N187⟩
                          exact key (T187, LL188, hp168, ((([] : List own_K) ++ [(own_A tb a1.toNatClampNeg a2.toNatClampNeg, own_A tb a3.toNatClampNeg a4.toNatClampNeg)]) ++ [(own_A tb b1.toNatClampNeg b2.toNatClampNeg, own_A tb b3.toNatClampNeg b4.toNatClampNeg)]), (2 * (2 * 0 + 1) + 1), Sq, Kq, Bq, ktq, (((0 : Int32) + (1 : Int32)) + (1 : Int32)), ((0 : Int32) + (1 : Int32)), (0 : Int32), (1 : Int32), (-1 : Int32), (2 : Int32)) ⟨XLL188, eh187, NLL188, Z185, fq172, fq173, fq174, fq176, fq175, fq178, fq180, fq181, fq183, fq182, fq170, fq171, V169, ⟨Qq_13, Qq_14, (Int.le_trans (show ktq.toInt ≤ 8 from klq) (by decide)), hsq, by decide, by decide, own_R2 (own_I.uniq Qq_13)⟩⟩
                    · refine s_ifYes (pc' := 286) X132.here hx (hb hby at_264) ((if0 _ _).trans (feq hza).2) (by decide) (by decide) ?_
                      have yka : (own_A tb a1.toNatClampNeg a2.toNatClampNeg, own_A tb a3.toNatClampNeg a4.toNatClampNeg) = (own_A tb b1.toNatClampNeg b2.toNatClampNeg, own_A tb b3.toNatClampNeg b4.toNatClampNeg) := own_pe.mpr (hga.mp (g01a.resolve_left hza))
                      refine s_iload (pc' := 288) X132.here hx (hb hby at_286) rfl rfl ?_
                      refine s_iconst (pc' := 289) X132.here hx (v := (3 : Int32)) (hb hby at_288) rfl rfl ?_
                      by_cases hc3 : cnt < (3 : Int32)
                      · refine s_icmpYes (pc' := 345) X132.here hx (hb hby at_289) (tlt hc3).1 (by decide) (by decide) ?_
                        obtain ⟨LL133, XLL133, NLL133⟩ : ∃ LL, Stand p l e room_1 s m #[(.int y0), (.int y1), (.int y2), (.int y3), (.int y4), (.int y5)] below meth c T132 LL 8 485 ∧ Fr n0 LL := ⟨_, X132, N132⟩
                        exact key (T132, LL133, hp112, (([] : List own_K) ++ [(own_A tb a1.toNatClampNeg a2.toNatClampNeg, own_A tb a3.toNatClampNeg a4.toNatClampNeg)]), (2 * 0 + 1), Sp, Kp, Bp, ktp, ((0 : Int32) + (1 : Int32)), (0 : Int32), (0 : Int32), (-1 : Int32), (-1 : Int32), (1 : Int32)) ⟨XLL133, eh132, NLL133, Z129, fq116, fq117, fq118, fq120, fq119, fq122, fq124, fq125, fq127, fq126, fq114, fq115, V113, ⟨Qp_13, Qp_14, (Int.le_trans (show ktp.toInt ≤ 4 from klp) (by decide)), hsp, by decide, by decide, own_R1 (own_I.uniq Qp_13)⟩⟩
                      · refine s_icmpNo (pc' := 292) X132.here hx (hb hby at_289) (flt hc3).1 rfl ?_
                        refine s_aload (pc' := 294) X132.here hx (hb hby at_292) rfl rfl rfl ?_
                        refine s_aload (pc' := 296) X132.here hx (hb hby at_294) rfl rfl rfl ?_
                        refine s_iconst (pc' := 297) X132.here hx (v := (0 : Int32)) (hb hby at_296) rfl rfl ?_
                        refine s_bipush (pc' := 299) X132.here hx (v := (8 : Int32)) (hb hby at_297) rfl rfl ?_
                        obtain ⟨gyb, g01yb, hgyb⟩ := own_pick (own_A tb a1.toNatClampNeg a2.toNatClampNeg = own_A tb c1.toNatClampNeg c2.toNatClampNeg ∧ own_A tb a3.toNatClampNeg a4.toNatClampNeg = own_A tb c3.toNatClampNeg c4.toNatClampNeg)
                        refine s_callS (pc' := 302) (W := 0) X132 hx hZ  hown (hw _ (List.mem_of_getElem? (i := 69) rfl)) (hw _ (List.mem_of_getElem? (i := 70) rfl)) (hw _ (List.mem_of_getElem? (i := 4) rfl)) (hw _ (List.mem_of_getElem? (i := 71) rfl)) (by decide) eh132 (own_eqk l Z a0 hw [] t d (0 : Int32) (8 : Int32) ka1 tb ka22 ds a1 a2 a3 a4 c1 c2 c3 c4 gyb hp112 n0 Z129 fq114 fq115 i0_0 v0_0 i0_1 v0_1 i0_2 v0_2 i0_3 v0_3 i2_0 v2_0 i2_1 v2_1 i2_2 v2_2 i2_3 v2_3 Ba0 Bb0 Ba2 Bb2 g01yb hgyb) (by rw [hml]; rfl) [(.ref t), (.ref d), (.int (0 : Int32)), (.int (8 : Int32))] [] rfl (lenOf own_pd6 rfl) rfl (Nat.le_of_eq rfl) (by decide) (by decide) (by decide) (by decide) rfl (hb hby at_299) fun T134 v134 Lc134 X134 hQ134 => ?_
                        obtain ⟨rfl, Nq134, eh134⟩ := hQ134
                        have N134 := Fr.app N132 Nq134
                        show Ends p.tables e below (T134.setTop (mkF m 302 #[.val (.int y0), .val (.int y1), .val (.int y2), .val (.int y3), .val (.int y4), .val (.int y5), .val (.int (y0.toInt8.toInt32)), .val (.int ((y0 >>> ((8 : Int32) &&& 31)).toInt8.toInt32)), .val (.ref t), .val (.ref d), .val (.int cnt), .val (.ref nu), .val (.ref a), .val (.int (1 : Int32)), .unset, .unset, .unset, .unset] [(.int gyb)])) _
                        by_cases hzyb : gyb = (0 : Int32)
                        · refine s_ifNo (pc' := 305) X134.here hx (hb hby at_302) ((if0 _ _).trans (teq hzyb).2) rfl ?_
                          have nkyb : ¬ (own_A tb a1.toNatClampNeg a2.toNatClampNeg, own_A tb a3.toNatClampNeg a4.toNatClampNeg) = (own_A tb c1.toNatClampNeg c2.toNatClampNeg, own_A tb c3.toNatClampNeg c4.toNatClampNeg) := fun q_ => absurd (hgyb.mpr (own_pe.mp q_)) (by rw [hzyb]; decide)
                          refine s_aload (pc' := 307) X134.here hx (hb hby at_305) rfl rfl rfl ?_
                          refine s_iconst (pc' := 308) X134.here hx (v := (1 : Int32)) (hb hby at_307) rfl rfl ?_
                          refine s_iaload (pc' := 309) (v := (.int (-1 : Int32))) X134 hx hZ eh134 V113 ⟨by decide, by decide⟩ rfl (hb hby at_308) rfl ?_
                          have hk136 : (-1 : Int32) < (0 : Int32) := by decide
                          refine s_ifYes (pc' := 325) X134.here hx (hb hby at_309) ((if0 _ _).trans (tlt hk136).1) (by decide) (by decide) ?_
                          refine s_aload (pc' := 327) X134.here hx (hb hby at_325) rfl rfl rfl ?_
                          refine s_aload (pc' := 329) X134.here hx (hb hby at_327) rfl rfl rfl ?_
                          refine s_aload (pc' := 331) X134.here hx (hb hby at_329) rfl rfl rfl ?_
                          refine s_bipush (pc' := 333) X134.here hx (v := (8 : Int32)) (hb hby at_331) rfl rfl ?_
                          refine s_callS (pc' := 336) (W := 0) X134 hx hZ  hown (hw _ (List.mem_of_getElem? (i := 51) rfl)) (hw _ (List.mem_of_getElem? (i := 52) rfl)) (hw _ (List.mem_of_getElem? (i := 4) rfl)) (hw _ (List.mem_of_getElem? (i := 53) rfl)) (by decide) eh134 (own_lk l Z a0 hw [] a t d (8 : Int32) ka1 tb c1 c2 c3 c4 sa ks Sp (([] : List own_K) ++ [(own_A tb a1.toNatClampNeg a2.toNatClampNeg, own_A tb a3.toNatClampNeg a4.toNatClampNeg)]) (2 * 0 + 1) ka kb kka kkb Kp Bp ktp va kv ((0 : Int32) + (1 : Int32)) (0 : Int32) ka22 ds hp112 n0 Z129 fq117 fq118 fq125 fq116 fq120 fq119 fq127 fq126 fq122 fq124 fq114 fq121 fq123 fq128 g_a g_sa g_ka g_kb g_va (Ne.symm ne65) ne84 ne92 ne88 ne96 ne81 ne89 ne85 ne93 nx_sa_ka nx_sa_kb nx_sa_va (Ne.symm nx_kb_ka) nx_ka_va nx_kb_va Qp_13 Qp_14 Qp_15 Qp_16 (Nat.le_of_ble_eq_true rfl) (Nat.le_of_ble_eq_true rfl) hsp Qp_17 (Int.le_trans (show ktp.toInt ≤ 4 from klp) (by decide)) Ba2 Bb2 (own_newS own_new0 nkyb) fq115 i2_0 v2_0 i2_1 v2_1 i2_2 v2_2 i2_3 v2_3) (by rw [hml]; rfl) [(.ref a), (.ref t), (.ref d), (.int (8 : Int32))] [] rfl (lenOf own_pd9 rfl) rfl (Nat.le_of_eq rfl) (by decide) (by decide) (by decide) (by decide) rfl (hb hby at_333) fun T137 v137 Lc137 X137 hQ137 => ?_
                          obtain ⟨Syk, Kyk, Byk, ktyk, rfl, Nq137, Kq137, Qyk_0, Qyk_1, Qyk_2, Qyk_3, Qyk_4, Qyk_5, Qyk_6, Qyk_7, Qyk_8, Qyk_9, Qyk_10, Qyk_11, Qyk_12, Qyk_13, Qyk_14, Qyk_15, Qyk_16, Qyk_17, Qyk_18⟩ := hQ137
                          have N137 := Fr.app N134 Nq137
                          have fq138 := fq114.keep Kq137 (ninS ne65 (ninS ne81 (ninS ne89 (ninS ne85 (ninS ne93 nin0)))))
                          have fq139 := fq115.keep Kq137 (ninS ne66 (ninS ne82 (ninS ne90 (ninS ne86 (ninS ne94 nin0)))))
                          have fq140 := fq116.keep Kq137
                          have fq141 := V113.keep Kq137 (ninS ne67 (ninS ne83 (ninS ne91 (ninS ne87 (ninS ne95 nin0)))))
                          have Z142 : n0 ≤ T137.heap.size := Nat.le_trans Z129 Kq137.1
                          show Ends p.tables e below (T137.setTop (mkF m 336 #[.val (.int y0), .val (.int y1), .val (.int y2), .val (.int y3), .val (.int y4), .val (.int y5), .val (.int (y0.toInt8.toInt32)), .val (.int ((y0 >>> ((8 : Int32) &&& 31)).toInt8.toInt32)), .val (.ref t), .val (.ref d), .val (.int cnt), .val (.ref nu), .val (.ref a), .val (.int (1 : Int32)), .unset, .unset, .unset, .unset] [])) _
                          have klyk : ktyk.toInt ≤ 8 := own_kt4 Qyk_18 (show ktp.toInt ≤ 4 from klp) (by decide)
                          have hsyk : (((0 : Int32) + (1 : Int32)) + (1 : Int32)).toInt = (((([] : List own_K) ++ [(own_A tb a1.toNatClampNeg a2.toNatClampNeg, own_A tb a3.toNatClampNeg a4.toNatClampNeg)]) ++ [(own_A tb c1.toNatClampNeg c2.toNatClampNeg, own_A tb c3.toNatClampNeg c4.toNatClampNeg)]).length : Int) := own_sz1 hsp (Nat.le_of_ble_eq_true rfl)
                          refine s_aload (pc' := 338) X137.here hx (hb hby at_336) rfl rfl rfl ?_
                          refine s_iconst (pc' := 339) X137.here hx (v := (2 : Int32)) (hb hby at_338) rfl rfl ?_
                          refine s_iload (pc' := 341) X137.here hx (hb hby at_339) rfl rfl ?_
                          refine s_putI (pc' := 342) X137 hx hZ rfl fq141 ⟨by decide, by decide⟩ 2 rfl (Nat.le_of_ble_eq_true rfl) (hb hby at_341) rfl fun T143 hp143 X143 e143 W143 Vw143 => ?_
                          have V144 : Arv Z hp143 nu ka42 .int (3 : Int32) [(.int (0 : Int32)), (.int (-1 : Int32)), (.int (1 : Int32))] (.int (0 : Int32)) := Vw143
                          have N143 := Fr.snoc X143 N137 g_nu
                          have fq145 := fq138.other W143 ne43
                          have fq146 := fq139.other W143 ne44
                          have fq147 := Qyk_0.wr W143
                          have fq148 := Qyk_1.other W143 (Or.inl (Ne.symm ne67))
                          have fq149 := Qyk_2.other W143 (Or.inl (Ne.symm ne67))
                          have fq150 := Qyk_3.other W143 (Or.inl (Ne.symm ne67))
                          have fq151 := Qyk_4.other W143 (Or.inl (Ne.symm ne67))
                          have fq152 := Qyk_5.other W143 (Or.inl (Ne.symm ne67))
                          have fq153 := Qyk_6.other W143 (Or.inl (Ne.symm ne67))
                          have fq154 := Qyk_7.other W143 (Or.inl (Ne.symm ne67))
                          have fq155 := Qyk_8.other W143 (Or.inl (Ne.symm ne67))
                          have fq156 := Qyk_9.other W143 (Ne.symm ne83)
                          have fq157 := Qyk_10.other W143 (Ne.symm ne87)
                          have fq158 := Qyk_11.other W143 (Ne.symm ne91)
                          have fq159 := Qyk_12.other W143 (Ne.symm ne95)
                          have Z160 : n0 ≤ hp143.size := Nat.le_trans Z142 (Keep.of_wr W143).1
                          refine s_iinc (pc' := 345) X143.here hx (v := (1 : Int32)) (l' := #[.val (.int y0), .val (.int y1), .val (.int y2), .val (.int y3), .val (.int y4), .val (.int y5), .val (.int (y0.toInt8.toInt32)), .val (.int ((y0 >>> ((8 : Int32) &&& 31)).toInt8.toInt32)), .val (.ref t), .val (.ref d), .val (.int cnt), .val (.ref nu), .val (.ref a), .val (.int ((1 : Int32) + (1 : Int32))), .unset, .unset, .unset, .unset]) (hb hby at_342) rfl rfl rfl rfl ?_
                          rw [show ((1 : Int32) + (1 : Int32)) = (2 : Int32) from by decide]
                          obtain ⟨LL161, XLL161, NLL161⟩ : ∃ LL, Stand p l e room_1 s m #[(.int y0), (.int y1), (.int y2), (.int y3), (.int y4), (.int y5)] below meth c T143 LL 8 485 ∧ Fr n0 LL := ⟨_, X143, N143⟩
                          exact key (T143, LL161, hp143, ((([] : List own_K) ++ [(own_A tb a1.toNatClampNeg a2.toNatClampNeg, own_A tb a3.toNatClampNeg a4.toNatClampNeg)]) ++ [(own_A tb c1.toNatClampNeg c2.toNatClampNeg, own_A tb c3.toNatClampNeg c4.toNatClampNeg)]), (2 * (2 * 0 + 1) + 1), Syk, Kyk, Byk, ktyk, (((0 : Int32) + (1 : Int32)) + (1 : Int32)), ((0 : Int32) + (1 : Int32)), (0 : Int32), (-1 : Int32), (1 : Int32), (2 : Int32)) ⟨XLL161, e143, NLL161, Z160, fq147, fq148, fq149, fq151, fq150, fq153, fq155, fq156, fq158, fq157, fq145, fq146, V144, ⟨Qyk_13, Qyk_14, (Int.le_trans (show ktyk.toInt ≤ 8 from klyk) (by decide)), hsyk, by decide, by decide, own_R3 (own_I.uniq Qyk_13)⟩⟩
                        · refine s_ifYes (pc' := 345) X134.here hx (hb hby at_302) ((if0 _ _).trans (feq hzyb).2) (by decide) (by decide) ?_
                          have ykyb : (own_A tb a1.toNatClampNeg a2.toNatClampNeg, own_A tb a3.toNatClampNeg a4.toNatClampNeg) = (own_A tb c1.toNatClampNeg c2.toNatClampNeg, own_A tb c3.toNatClampNeg c4.toNatClampNeg) := own_pe.mpr (hgyb.mp (g01yb.resolve_left hzyb))
                          obtain ⟨LL135, XLL135, NLL135⟩ : ∃ LL, Stand p l e room_1 s m #[(.int y0), (.int y1), (.int y2), (.int y3), (.int y4), (.int y5)] below meth c T134 LL 8 485 ∧ Fr n0 LL := ⟨_, X134, N134⟩
                          exact key (T134, LL135, hp112, (([] : List own_K) ++ [(own_A tb a1.toNatClampNeg a2.toNatClampNeg, own_A tb a3.toNatClampNeg a4.toNatClampNeg)]), (2 * 0 + 1), Sp, Kp, Bp, ktp, ((0 : Int32) + (1 : Int32)), (0 : Int32), (0 : Int32), (-1 : Int32), (-1 : Int32), (1 : Int32)) ⟨XLL135, eh134, NLL135, Z129, fq116, fq117, fq118, fq120, fq119, fq122, fq124, fq125, fq127, fq126, fq114, fq115, V113, ⟨Qp_13, Qp_14, (Int.le_trans (show ktp.toInt ≤ 4 from klp) (by decide)), hsp, by decide, by decide, own_R1 (own_I.uniq Qp_13)⟩⟩
              · rintro ⟨TM102, LM102, hM102, es, b, S, K, B, kt, sz, rc, u0, u1, u2, nn⟩ ⟨XM102, eM102, NM102, ZM102, fM102_0, fM102_1, fM102_2, fM102_3, fM102_4, fM102_5, fM102_6, fM102_7, fM102_8, fM102_9, fM102_10, fM102_11, fM102_12, ⟨hI, hTb, hk60, hsz_, hrc0, hrc3, hR⟩⟩
                try dsimp only
                show Ends p.tables e below (TM102.setTop (mkF m 345 #[.val (.int y0), .val (.int y1), .val (.int y2), .val (.int y3), .val (.int y4), .val (.int y5), .val (.int (y0.toInt8.toInt32)), .val (.int ((y0 >>> ((8 : Int32) &&& 31)).toInt8.toInt32)), .val (.ref t), .val (.ref d), .val (.int cnt), .val (.ref nu), .val (.ref a), .val (.int nn), .unset, .unset, .unset, .unset] [])) _
                refine s_aload (pc' := 347) XM102.here hx (hb hby at_345) rfl rfl rfl ?_
                refine s_aload (pc' := 349) XM102.here hx (hb hby at_347) rfl rfl rfl ?_
                refine s_aload (pc' := 351) XM102.here hx (hb hby at_349) rfl rfl rfl ?_
                refine s_bipush (pc' := 353) XM102.here hx (v := (12 : Int32)) (hb hby at_351) rfl rfl ?_
                refine s_iaload (pc' := 354) (v := (.int q1)) XM102 hx hZ eM102 fM102_11 ⟨by decide, by decide⟩ dg12 (hb hby at_353) rfl ?_
                refine s_aload (pc' := 356) XM102.here hx (hb hby at_354) rfl rfl rfl ?_
                refine s_bipush (pc' := 358) XM102.here hx (v := (12 : Int32)) (hb hby at_356) rfl rfl ?_
                refine s_iaload (pc' := 359) (v := (.int q1)) XM102 hx hZ eM102 fM102_11 ⟨by decide, by decide⟩ dg12 (hb hby at_358) rfl ?_
                refine s_aload (pc' := 361) XM102.here hx (hb hby at_359) rfl rfl rfl ?_
                refine s_bipush (pc' := 363) XM102.here hx (v := (13 : Int32)) (hb hby at_361) rfl rfl ?_
                refine s_iaload (pc' := 364) (v := (.int q2)) XM102 hx hZ eM102 fM102_11 ⟨by decide, by decide⟩ dg13 (hb hby at_363) rfl ?_
                refine s_iadd (pc' := 365) XM102.here hx (hb hby at_364) rfl ?_
                refine s_aload (pc' := 367) XM102.here hx (hb hby at_365) rfl rfl rfl ?_
                refine s_bipush (pc' := 369) XM102.here hx (v := (14 : Int32)) (hb hby at_367) rfl rfl ?_
                refine s_iaload (pc' := 370) (v := (.int q3)) XM102 hx hZ eM102 fM102_11 ⟨by decide, by decide⟩ dg14 (hb hby at_369) rfl ?_
                refine s_aload (pc' := 372) XM102.here hx (hb hby at_370) rfl rfl rfl ?_
                refine s_bipush (pc' := 374) XM102.here hx (v := (14 : Int32)) (hb hby at_372) rfl rfl ?_
                refine s_iaload (pc' := 375) (v := (.int q3)) XM102 hx hZ eM102 fM102_11 ⟨by decide, by decide⟩ dg14 (hb hby at_374) rfl ?_
                refine s_aload (pc' := 377) XM102.here hx (hb hby at_375) rfl rfl rfl ?_
                refine s_bipush (pc' := 379) XM102.here hx (v := (15 : Int32)) (hb hby at_377) rfl rfl ?_
                refine s_iaload (pc' := 380) (v := (.int q4)) XM102 hx hZ eM102 fM102_11 ⟨by decide, by decide⟩ dg15 (hb hby at_379) rfl ?_
                refine s_iadd (pc' := 381) XM102.here hx (hb hby at_380) rfl ?_
                obtain ⟨res0, Hr0⟩ := own_rex hI.few (own_A tb q1.toNatClampNeg q2.toNatClampNeg, own_A tb q3.toNatClampNeg q4.toNatClampNeg)
                refine s_callV (pc' := 384) (W := 0) XM102 hx hZ  hown (hw _ (List.mem_of_getElem? (i := 27) rfl)) (hw _ (List.mem_of_getElem? (i := 28) rfl)) (hw _ (List.mem_of_getElem? (i := 8) rfl)) (hw _ (List.mem_of_getElem? (i := 31) rfl)) (hw _ (List.mem_of_getElem? (i := 30) rfl)) (hw _ (List.mem_of_getElem? (i := 29) rfl)) (by decide) eM102 fM102_0 (own_no l Z a0 hw [] a t ka1 tb q1 q2 q3 q4 sa ks S es b ka kb kka kkb K B kt sz rc res0 hM102 n0 ZM102 fM102_1 fM102_2 fM102_7 fM102_0 fM102_3 fM102_4 fM102_8 fM102_9 fM102_5 fM102_6 g_a fM102_10 (Ne.symm ne84) (Ne.symm ne92) (Ne.symm ne88) ne65 hI hk60 hTb Ba3 Bb3 Hr0 hrc0 hrc3 hsz_) (by rw [hml]; rfl) [(.ref t), (.int q1), (.int (q1 + q2)), (.int q3), (.int (q3 + q4))] [] rfl (lenOf own_pd4 rfl) rfl (Nat.le_of_eq rfl) (by decide) (by decide) (by decide) (by decide) rfl (hb hby at_381) fun T217 v217 Lc217 X217 hQ217 => ?_
                obtain ⟨rc0, rfl, Nq217, Kq217, O0_0, O0_1, O0_2, O0_3, O0_4, O0_5, O0_6⟩ := hQ217
                have N217 := Fr.app NM102 Nq217
                have fq218 := fM102_0.keep Kq217
                have fq219 := fM102_7.keep Kq217 (ninS (Ne.symm ne84) nin0)
                have fq220 := fM102_8.keep Kq217 (ninS (Ne.symm ne92) nin0)
                have fq221 := fM102_9.keep Kq217 (ninS (Ne.symm ne88) nin0)
                have fq222 := fM102_10.keep Kq217 (ninS ne65 nin0)
                have fq223 := fM102_11.keep Kq217 (ninS ne66 nin0)
                have fq224 := fM102_12.keep Kq217 (ninS ne67 nin0)
                have Z225 : n0 ≤ T217.heap.size := Nat.le_trans ZM102 Kq217.1
                show Ends p.tables e below (T217.setTop (mkF m 384 #[.val (.int y0), .val (.int y1), .val (.int y2), .val (.int y3), .val (.int y4), .val (.int y5), .val (.int (y0.toInt8.toInt32)), .val (.int ((y0 >>> ((8 : Int32) &&& 31)).toInt8.toInt32)), .val (.ref t), .val (.ref d), .val (.int cnt), .val (.ref nu), .val (.ref a), .val (.int nn), .unset, .unset, .unset, .unset] [(.int res0)])) _
                have rB0 := own_rcB hI.few Hr0 O0_6 hrc0 hrc3
                refine s_istore (pc' := 386) X217.here hx (l' := #[.val (.int y0), .val (.int y1), .val (.int y2), .val (.int y3), .val (.int y4), .val (.int y5), .val (.int (y0.toInt8.toInt32)), .val (.int ((y0 >>> ((8 : Int32) &&& 31)).toInt8.toInt32)), .val (.ref t), .val (.ref d), .val (.int cnt), .val (.ref nu), .val (.ref a), .val (.int nn), .val (.int res0), .unset, .unset, .unset]) (hb hby at_384) rfl rfl ?_
                refine s_aload (pc' := 388) X217.here hx (hb hby at_386) rfl rfl rfl ?_
                refine s_aload (pc' := 390) X217.here hx (hb hby at_388) rfl rfl rfl ?_
                refine s_aload (pc' := 392) X217.here hx (hb hby at_390) rfl rfl rfl ?_
                refine s_bipush (pc' := 394) X217.here hx (v := (12 : Int32)) (hb hby at_392) rfl rfl ?_
                refine s_callS (pc' := 397) (W := 0) X217 hx hZ  hown (hw _ (List.mem_of_getElem? (i := 48) rfl)) (hw _ (List.mem_of_getElem? (i := 49) rfl)) (hw _ (List.mem_of_getElem? (i := 4) rfl)) (hw _ (List.mem_of_getElem? (i := 50) rfl)) (by decide) rfl (own_exp l Z a0 hw [] t d nu (12 : Int32) ka1 tb ka22 ds ka42 u0 u1 u2 a1 a2 a3 a4 b1 b2 b3 b4 c1 c2 c3 c4 q1 q2 q3 q4 T217.heap n0 Z225 fq222 fq223 fq224 DD0 DD1 DD2 DD3) (by rw [hml]; rfl) [(.ref t), (.ref d), (.ref nu), (.int (12 : Int32))] [] rfl (lenOf own_pd10 rfl) rfl (Nat.le_of_eq rfl) (by decide) (by decide) (by decide) (by decide) rfl (hb hby at_394) fun T226 v226 Lc226 X226 hQ226 => ?_
                obtain ⟨rx0, rfl, Nq226, eh226, hex0⟩ := hQ226
                have N226 := Fr.app N217 Nq226
                show Ends p.tables e below (T226.setTop (mkF m 397 #[.val (.int y0), .val (.int y1), .val (.int y2), .val (.int y3), .val (.int y4), .val (.int y5), .val (.int (y0.toInt8.toInt32)), .val (.int ((y0 >>> ((8 : Int32) &&& 31)).toInt8.toInt32)), .val (.ref t), .val (.ref d), .val (.int cnt), .val (.ref nu), .val (.ref a), .val (.int nn), .val (.int res0), .unset, .unset, .unset] [(.int rx0)])) _
                have re0 : res0 = rx0 := (hR _ _ _ hex0 Hr0).symm
                refine s_istore (pc' := 399) X226.here hx (l' := #[.val (.int y0), .val (.int y1), .val (.int y2), .val (.int y3), .val (.int y4), .val (.int y5), .val (.int (y0.toInt8.toInt32)), .val (.int ((y0 >>> ((8 : Int32) &&& 31)).toInt8.toInt32)), .val (.ref t), .val (.ref d), .val (.int cnt), .val (.ref nu), .val (.ref a), .val (.int nn), .val (.int res0), .val (.int rx0), .unset, .unset]) (hb hby at_397) rfl rfl ?_
                refine s_aload (pc' := 401) X226.here hx (hb hby at_399) rfl rfl rfl ?_
                refine s_aload (pc' := 403) X226.here hx (hb hby at_401) rfl rfl rfl ?_
                refine s_aload (pc' := 405) X226.here hx (hb hby at_403) rfl rfl rfl ?_
                refine s_bipush (pc' := 407) X226.here hx (v := (16 : Int32)) (hb hby at_405) rfl rfl ?_
                refine s_iaload (pc' := 408) (v := (.int r1)) X226 hx hZ eh226 fq223 ⟨by decide, by decide⟩ dg16 (hb hby at_407) rfl ?_
                refine s_aload (pc' := 410) X226.here hx (hb hby at_408) rfl rfl rfl ?_
                refine s_bipush (pc' := 412) X226.here hx (v := (16 : Int32)) (hb hby at_410) rfl rfl ?_
                refine s_iaload (pc' := 413) (v := (.int r1)) X226 hx hZ eh226 fq223 ⟨by decide, by decide⟩ dg16 (hb hby at_412) rfl ?_
                refine s_aload (pc' := 415) X226.here hx (hb hby at_413) rfl rfl rfl ?_
                refine s_bipush (pc' := 417) X226.here hx (v := (17 : Int32)) (hb hby at_415) rfl rfl ?_
                refine s_iaload (pc' := 418) (v := (.int r2)) X226 hx hZ eh226 fq223 ⟨by decide, by decide⟩ dg17 (hb hby at_417) rfl ?_
                refine s_iadd (pc' := 419) X226.here hx (hb hby at_418) rfl ?_
                refine s_aload (pc' := 421) X226.here hx (hb hby at_419) rfl rfl rfl ?_
                refine s_bipush (pc' := 423) X226.here hx (v := (18 : Int32)) (hb hby at_421) rfl rfl ?_
                refine s_iaload (pc' := 424) (v := (.int r3)) X226 hx hZ eh226 fq223 ⟨by decide, by decide⟩ dg18 (hb hby at_423) rfl ?_
                refine s_aload (pc' := 426) X226.here hx (hb hby at_424) rfl rfl rfl ?_
                refine s_bipush (pc' := 428) X226.here hx (v := (18 : Int32)) (hb hby at_426) rfl rfl ?_
                refine s_iaload (pc' := 429) (v := (.int r3)) X226 hx hZ eh226 fq223 ⟨by decide, by decide⟩ dg18 (hb hby at_428) rfl ?_
                refine s_aload (pc' := 431) X226.here hx (hb hby at_429) rfl rfl rfl ?_
                refine s_bipush (pc' := 433) X226.here hx (v := (19 : Int32)) (hb hby at_431) rfl rfl ?_
                refine s_iaload (pc' := 434) (v := (.int r4)) X226 hx hZ eh226 fq223 ⟨by decide, by decide⟩ dg19 (hb hby at_433) rfl ?_
                refine s_iadd (pc' := 435) X226.here hx (hb hby at_434) rfl ?_
                obtain ⟨res1, Hr1⟩ := own_rex hI.few (own_A tb r1.toNatClampNeg r2.toNatClampNeg, own_A tb r3.toNatClampNeg r4.toNatClampNeg)
                refine s_callV (pc' := 438) (W := 0) X226 hx hZ  hown (hw _ (List.mem_of_getElem? (i := 27) rfl)) (hw _ (List.mem_of_getElem? (i := 28) rfl)) (hw _ (List.mem_of_getElem? (i := 8) rfl)) (hw _ (List.mem_of_getElem? (i := 31) rfl)) (hw _ (List.mem_of_getElem? (i := 30) rfl)) (hw _ (List.mem_of_getElem? (i := 29) rfl)) (by decide) eh226 fq218 (own_no l Z a0 hw [] a t ka1 tb r1 r2 r3 r4 sa ks S es b ka kb kka kkb K B kt sz rc0 res1 T217.heap n0 Z225 O0_0 O0_1 fq219 fq218 O0_2 O0_3 fq220 fq221 O0_4 O0_5 g_a fq222 (Ne.symm ne84) (Ne.symm ne92) (Ne.symm ne88) ne65 hI hk60 hTb Ba4 Bb4 Hr1 rB0.1 rB0.2 hsz_) (by rw [hml]; rfl) [(.ref t), (.int r1), (.int (r1 + r2)), (.int r3), (.int (r3 + r4))] [] rfl (lenOf own_pd4 rfl) rfl (Nat.le_of_eq rfl) (by decide) (by decide) (by decide) (by decide) rfl (hb hby at_435) fun T227 v227 Lc227 X227 hQ227 => ?_
                obtain ⟨rc1, rfl, Nq227, Kq227, O1_0, O1_1, O1_2, O1_3, O1_4, O1_5, O1_6⟩ := hQ227
                have N227 := Fr.app N226 Nq227
                have fq228 := fq218.keep Kq227
                have fq229 := fq219.keep Kq227 (ninS (Ne.symm ne84) nin0)
                have fq230 := fq220.keep Kq227 (ninS (Ne.symm ne92) nin0)
                have fq231 := fq221.keep Kq227 (ninS (Ne.symm ne88) nin0)
                have fq232 := fq222.keep Kq227 (ninS ne65 nin0)
                have fq233 := fq223.keep Kq227 (ninS ne66 nin0)
                have fq234 := fq224.keep Kq227 (ninS ne67 nin0)
                have Z235 : n0 ≤ T227.heap.size := Nat.le_trans Z225 Kq227.1
                show Ends p.tables e below (T227.setTop (mkF m 438 #[.val (.int y0), .val (.int y1), .val (.int y2), .val (.int y3), .val (.int y4), .val (.int y5), .val (.int (y0.toInt8.toInt32)), .val (.int ((y0 >>> ((8 : Int32) &&& 31)).toInt8.toInt32)), .val (.ref t), .val (.ref d), .val (.int cnt), .val (.ref nu), .val (.ref a), .val (.int nn), .val (.int res0), .val (.int rx0), .unset, .unset] [(.int res1)])) _
                have rB1 := own_rcB hI.few Hr1 O1_6 rB0.1 rB0.2
                refine s_istore (pc' := 440) X227.here hx (l' := #[.val (.int y0), .val (.int y1), .val (.int y2), .val (.int y3), .val (.int y4), .val (.int y5), .val (.int (y0.toInt8.toInt32)), .val (.int ((y0 >>> ((8 : Int32) &&& 31)).toInt8.toInt32)), .val (.ref t), .val (.ref d), .val (.int cnt), .val (.ref nu), .val (.ref a), .val (.int nn), .val (.int res0), .val (.int rx0), .val (.int res1), .unset]) (hb hby at_438) rfl rfl ?_
                refine s_aload (pc' := 442) X227.here hx (hb hby at_440) rfl rfl rfl ?_
                refine s_aload (pc' := 444) X227.here hx (hb hby at_442) rfl rfl rfl ?_
                refine s_aload (pc' := 446) X227.here hx (hb hby at_444) rfl rfl rfl ?_
                refine s_bipush (pc' := 448) X227.here hx (v := (16 : Int32)) (hb hby at_446) rfl rfl ?_
                refine s_callS (pc' := 451) (W := 0) X227 hx hZ  hown (hw _ (List.mem_of_getElem? (i := 48) rfl)) (hw _ (List.mem_of_getElem? (i := 49) rfl)) (hw _ (List.mem_of_getElem? (i := 4) rfl)) (hw _ (List.mem_of_getElem? (i := 50) rfl)) (by decide) rfl (own_exp l Z a0 hw [] t d nu (16 : Int32) ka1 tb ka22 ds ka42 u0 u1 u2 a1 a2 a3 a4 b1 b2 b3 b4 c1 c2 c3 c4 r1 r2 r3 r4 T227.heap n0 Z235 fq232 fq233 fq234 DD0 DD1 DD2 DD4) (by rw [hml]; rfl) [(.ref t), (.ref d), (.ref nu), (.int (16 : Int32))] [] rfl (lenOf own_pd10 rfl) rfl (Nat.le_of_eq rfl) (by decide) (by decide) (by decide) (by decide) rfl (hb hby at_448) fun T236 v236 Lc236 X236 hQ236 => ?_
                obtain ⟨rx1, rfl, Nq236, eh236, hex1⟩ := hQ236
                have N236 := Fr.app N227 Nq236
                show Ends p.tables e below (T236.setTop (mkF m 451 #[.val (.int y0), .val (.int y1), .val (.int y2), .val (.int y3), .val (.int y4), .val (.int y5), .val (.int (y0.toInt8.toInt32)), .val (.int ((y0 >>> ((8 : Int32) &&& 31)).toInt8.toInt32)), .val (.ref t), .val (.ref d), .val (.int cnt), .val (.ref nu), .val (.ref a), .val (.int nn), .val (.int res0), .val (.int rx0), .val (.int res1), .unset] [(.int rx1)])) _
                have re1 : res1 = rx1 := (hR _ _ _ hex1 Hr1).symm
                refine s_istore (pc' := 453) X236.here hx (l' := #[.val (.int y0), .val (.int y1), .val (.int y2), .val (.int y3), .val (.int y4), .val (.int y5), .val (.int (y0.toInt8.toInt32)), .val (.int ((y0 >>> ((8 : Int32) &&& 31)).toInt8.toInt32)), .val (.ref t), .val (.ref d), .val (.int cnt), .val (.ref nu), .val (.ref a), .val (.int nn), .val (.int res0), .val (.int rx0), .val (.int res1), .val (.int rx1)]) (hb hby at_451) rfl rfl ?_
                refine s_iload (pc' := 455) X236.here hx (hb hby at_453) rfl rfl ?_
                refine s_iload (pc' := 457) X236.here hx (hb hby at_455) rfl rfl ?_
                have hk237 : res0 = rx0 := re0
                refine s_icmpNo (pc' := 460) X236.here hx (hb hby at_457) (teq hk237).2 rfl ?_
                refine s_iload (pc' := 462) X236.here hx (hb hby at_460) rfl rfl ?_
                refine s_iload (pc' := 464) X236.here hx (hb hby at_462) rfl rfl ?_
                have hk238 : res1 = rx1 := re1
                refine s_icmpNo (pc' := 467) X236.here hx (hb hby at_464) (teq hk238).2 rfl ?_
                refine s_iconst (pc' := 468) X236.here hx (v := (1 : Int32)) (hb hby at_467) rfl rfl ?_
                refine s_goto (pc' := 472) X236.here hx (hb hby at_468) (by decide) (by decide) ?_
                obtain ⟨fs, hr, hrun, hended, hW, hsame⟩ := X236.leave (v := some (.int (1 : Int32))) (fun h => by rw [Bd.returns] at h; cases h)
                refine ⟨_, _, retN X236 hx (t := .boolean) Bd.returns (by simp) (hb hby at_472) hr, hrun, hended, _, _, rfl, ?_, ⟨_, rfl⟩, hW, hsame.mono (by decide) (by decide)⟩
                show own_rm0_Q Z y0 y1 y2 y3 y4 y5 h0 n0 _ T236.heap _
                rw [eh236]
                exact ⟨rfl, N236⟩
set_option maxRecDepth 65536 in
set_option maxHeartbeats 40000000 in
theorem comes_1 {Post : Tables → Env → Array Value → State → Outcome → State → Prop} (hpost : ∀ tb e args s v u, (limb_1_1.after args s (.returned v) u = true ∧ limb_1_2.after args s (.returned v) u = true ∧ True) → FrameEnd s (.returned v) u (Jvm.fieldLocs frame_1_writes args s ++ Jvm.arrayLocs frame_1_arrays args s ++ Jvm.staticLocs frame_1_statics s) 24 1088 → Post tb e args s (.returned v) u) :
    ArmFor flags0 classFile x code maxLocals ret World_1 tables_1 room_1 Calls_1 rest_1 Pre_1 Post := by
  intro l hfl _ _ p e ha hc hk s m args below hf hA hF happ hP
  obtain ⟨hcalls, hrest, hpre⟩ := hP
  obtain ⟨-, -, -, hnamed, -, -, -, hat⟩ := (Spec.applies_iff hf).mp happ
  obtain ⟨hg, hn⟩ := and_e (Cond.before_iff.mp (show (Jvm.Cond.and given_1 narrow_1).before args s = true from hpre))
  obtain ⟨gg2, gg3⟩ := and_e hg
  obtain ⟨gg4, gg5⟩ := and_e gg3
  obtain ⟨gg6, gg7⟩ := and_e gg5
  obtain ⟨gg8, gg9⟩ := and_e gg7
  obtain ⟨gg10, gg11⟩ := and_e gg9
  obtain ⟨gg12, gg13⟩ := and_e gg11
  obtain ⟨w0, w1, w2, w3, w4, w5, rfl⟩ : ∃ w0 w1 w2 w3 w4 w5 : Value, args = #[w0, w1, w2, w3, w4, w5] := by
    have hs : args.size = 6 := by simpa [Cond.value, given_1] using gg2
    obtain ⟨L⟩ := args
    match L, hs with
    | [w0, w1, w2, w3, w4, w5], _ => exact ⟨w0, w1, w2, w3, w4, w5, rfl⟩
  have hw := fun d (hd : d ∈ tables_1) => atoms_spec (ws := Jvm.Cond.code x code maxLocals ret :: tables_1) hat d (List.mem_cons_of_mem _ hd)
  have hfit : Fit s := fun {y c} hc i hi => by
    obtain ⟨ha, rfl⟩ := Array.getElem?_eq_some_iff.mp hc
    have q := List.all_eq_true.mp ((Array.all_eq_true_iff_forall_mem.mp hF) _ (Array.getElem_mem ha)) i (List.mem_range.mpr hi)
    simpa [Array.getElem?_eq_getElem hi] using q
  obtain ⟨i0, ei0⟩ := is_v gg4
  obtain rfl : w0 = (.int i0) := Option.some.inj ei0
  obtain ⟨i1, ei1⟩ := is_v gg6
  obtain rfl : w1 = (.int i1) := Option.some.inj ei1
  obtain ⟨i2, ei2⟩ := is_v gg8
  obtain rfl : w2 = (.int i2) := Option.some.inj ei2
  obtain ⟨i3, ei3⟩ := is_v gg10
  obtain rfl : w3 = (.int i3) := Option.some.inj ei3
  obtain ⟨i4, ei4⟩ := is_v gg12
  obtain rfl : w4 = (.int i4) := Option.some.inj ei4
  obtain ⟨i5, ei5⟩ := is_v gg13
  obtain rfl : w5 = (.int i5) := Option.some.inj ei5
  obtain ⟨n, o, h1, h2, h3, _, L, rfl, ⟨rfl, N⟩, hq⟩ := own_rm0 l s _ hw tables_1 i0 i1 i2 i3 i4 i5 s.heap s.heap.size (Nat.le_refl _) p e ha hc hk s m _ below hf ((Spec.applies_iff_loose hf).mp happ).1 ⟨rfl, State.Warmed39.refl s, rfl⟩ trivial
  refine ⟨n, _, h1, h2, h3, hpost _ _ _ _ _ _ ⟨Cond.after_iff.mpr rfl, Cond.after_iff.mpr (eq_i res_at (Term.int_eval (1)) rfl), trivial⟩ ⟨hq.1, hq.2.1, (hq.2.2.sift fun y hy => Or.inr (N y hy)).mono (by decide) (by decide)⟩⟩
theorem main_1_1 : Claimed_1_1 := comes_1 fun _ _ _ _ _ _ h hF => ⟨h.1, hF⟩
theorem main_1_2 : Claimed_1_2 := comes_1 fun _ _ _ _ _ _ h hF => ⟨h.2.1, hF⟩
end Jvm.Pilot.@@N@@
namespace Jvm.Pilot.@@N@@
open Jvm Jvm.ClassFile Sem Op Lib Jvm.Free Jvm.Stand Jvm.Pilot.@@N@@.Jvm.D
/-! MADE BY PROGRAM (witnessworld.py) out of the Statement's table words and the real class files: 11 classes; the members and pool entries that the words name. The judged class is class 1, her method 1. -/
namespace start1
open Jvm.ClassFile
def u (s : String) : CpInfo := .utf8 (stringToUtf16 s)
/-- a pool by its gaps: so many unusable entries, then the entry; so many at the end -/
def gap : Nat → List CpInfo → List CpInfo
  | 0, r => r
  | n + 1, r => .unusable :: gap n r
def poolList (es : List (Nat × CpInfo)) (last : Nat) : List CpInfo := es.foldr (fun e r => gap e.1 (e.2 :: r)) (gap last [])
def pool (es : List (Nat × CpInfo)) (last : Nat) : Array CpInfo := ⟨poolList es last⟩
def fileOf (pool : Array CpInfo) (this : Nat) (attrs : Array Attribute := #[]) (ms : Array MethodInfo := #[]) (fl : Nat := 33) (sup : Nat := 0) (ifs : Array Nat := #[]) (fds : Array FieldInfo := #[]) : ClassFile where
  minorVersion := 0
  majorVersion := 65
  constantPool := pool
  accessFlags := fl
  thisClass := this
  superClass := sup
  interfaces := ifs
  fields := fds
  methods := ms
  attributes := attrs
def plain (name : String) (sup : Option ClassId) : Class where
  name := name
  kind := .ordinary
  loader := none
  accessFlags := 33
  super := sup
  interfaces := #[]
  cf := none
  fields := #[]
  methods := #[]
  instanceTypes := #[]
  staticTypes := #[]
  resolved := #[]
  callSites := []
  init := .initialized
  statics := none
  mirror := none

def pool0 : Array CpInfo := pool [(5, u "<init>"), (0, u "()V"), (1, .class_ 10), (1, u "java/lang/Object")] 113

def k0c0 : Code := { maxStack := 0, maxLocals := 1, code := object_method_1_code, exceptionTable := #[], attributes := #[] }
def k0m0 : Method := { name := "<init>", desc := "()V", sig := { parameters := [], returnType := none }, accessFlags := 1, code := some k0c0 }
/-- java/lang/Object -/
def k0 : Class := { plain "java/lang/Object" none with
  accessFlags := 33
  interfaces := #[]
  cf := some (fileOf pool0 8 #[] #[{ accessFlags := 1, nameIndex := 5, descriptorIndex := 6, attributes := #[] }] 33 0 #[] #[])
  fields := #[]
  methods := #[k0m0]
  instanceTypes := #[]
  staticTypes := #[]
  resolved := Array.replicate 124 none
  statics := none }

def pool1 : Array CpInfo := pool [(2, .class_ 4), (0, .nameAndType 5 6), (0, u "java/lang/Object"), (0, u "<init>"), (0, u "()V"), (0, .methodref 8 9), (0, .class_ 10), (0, .nameAndType 11 12), (0, u "com/example/vestbook/vestbook/FirstCopiesNumberOfPinLaw"), (0, u "fill"), (0, u "([III)V"), (0, .class_ 14), (0, u "com/example/vestbook/vestbook/FirstCopies"), (0, .methodref 13 3), (0, .methodref 8 17), (0, .nameAndType 18 19), (0, u "keep"), (0, u "(Lcom/example/vestbook/vestbook/FirstCopies;[B[II)V"), (0, .methodref 8 21), (0, .nameAndType 22 23), (0, u "eqKey"), (0, u "([B[III)Z"), (0, .methodref 13 25), (0, .nameAndType 26 27), (0, u "numberOf"), (0, u "([BIIII)I"), (0, .methodref 8 29), (0, .nameAndType 30 31), (0, u "expected"), (0, u "([B[I[II)I"), (0, .methodref 13 33), (0, .nameAndType 18 34), (0, u "([BIIIILjava/lang/Object;)I"), (0, .methodref 8 36), (0, .nameAndType 37 38), (0, u "same"), (0, u "([BIIII)Z"), (2, u "law"), (0, u "(IIIIII)Z")] 9

def k1m0 : Method := { name := "<init>", desc := "()V", sig := { parameters := [], returnType := none }, accessFlags := 1, code := none }
def k1c1 : Code := { maxStack := 8, maxLocals := 18, code := code, exceptionTable := #[], attributes := #[] }
def k1m1 : Method := { name := "law", desc := "(IIIIII)Z", sig := { parameters := [.int, .int, .int, .int, .int, .int], returnType := some .boolean }, accessFlags := 9, code := some k1c1 }
def k1c2 : Code := { maxStack := 4, maxLocals := 5, code := method_3_code, exceptionTable := #[], attributes := #[] }
def k1m2 : Method := { name := "fill", desc := "([III)V", sig := { parameters := [(.array .int), .int, .int], returnType := none }, accessFlags := 10, code := some k1c2 }
def k1c3 : Code := { maxStack := 9, maxLocals := 4, code := method_4_code, exceptionTable := #[], attributes := #[] }
def k1m3 : Method := { name := "keep", desc := "(Lcom/example/vestbook/vestbook/FirstCopies;[B[II)V", sig := { parameters := [(.object "com/example/vestbook/vestbook/FirstCopies"), (.array .byte), (.array .int), .int], returnType := none }, accessFlags := 10, code := some k1c3 }
def k1c4 : Code := { maxStack := 4, maxLocals := 5, code := method_5_code, exceptionTable := #[], attributes := #[] }
def k1m4 : Method := { name := "same", desc := "([BIIII)Z", sig := { parameters := [(.array .byte), .int, .int, .int, .int], returnType := some .boolean }, accessFlags := 10, code := some k1c4 }
def k1c5 : Code := { maxStack := 7, maxLocals := 4, code := method_6_code, exceptionTable := #[], attributes := #[] }
def k1m5 : Method := { name := "eqKey", desc := "([B[III)Z", sig := { parameters := [(.array .byte), (.array .int), .int, .int], returnType := some .boolean }, accessFlags := 10, code := some k1c5 }
def k1c6 : Code := { maxStack := 4, maxLocals := 5, code := method_7_code, exceptionTable := #[], attributes := #[] }
def k1m6 : Method := { name := "expected", desc := "([B[I[II)I", sig := { parameters := [(.array .byte), (.array .int), (.array .int), .int], returnType := some .int }, accessFlags := 10, code := some k1c6 }
/-- com/example/vestbook/vestbook/FirstCopiesNumberOfPinLaw -/
def k1 : Class := { plain "com/example/vestbook/vestbook/FirstCopiesNumberOfPinLaw" (some 0) with
  accessFlags := 49
  interfaces := #[]
  cf := some (fileOf pool1 8 #[] #[{ accessFlags := 1, nameIndex := 5, descriptorIndex := 6, attributes := #[] }, { accessFlags := 9, nameIndex := 41, descriptorIndex := 42, attributes := #[] }, { accessFlags := 10, nameIndex := 11, descriptorIndex := 12, attributes := #[] }, { accessFlags := 10, nameIndex := 18, descriptorIndex := 19, attributes := #[] }, { accessFlags := 10, nameIndex := 37, descriptorIndex := 38, attributes := #[] }, { accessFlags := 10, nameIndex := 22, descriptorIndex := 23, attributes := #[] }, { accessFlags := 10, nameIndex := 30, descriptorIndex := 31, attributes := #[] }] 49 2 #[] #[])
  fields := #[]
  methods := #[k1m0, k1m1, k1m2, k1m3, k1m4, k1m5, k1m6]
  instanceTypes := #[]
  staticTypes := #[]
  resolved := Array.replicate 52 none
  statics := none }

def pool2 : Array CpInfo := pool [(1, .methodref 2 3), (0, .class_ 4), (0, .nameAndType 5 6), (0, u "java/lang/Object"), (0, u "<init>"), (0, u "()V"), (0, .class_ 8), (0, u "com/example/vestbook/vestbook/FirstCopies"), (0, .fieldref 7 10), (0, .nameAndType 11 12), (0, u "slots"), (0, u "[I"), (0, .fieldref 7 14), (0, .nameAndType 15 16), (0, u "bits"), (0, u "I"), (0, .fieldref 7 18), (0, .nameAndType 19 20), (0, u "keyBytes"), (0, u "[B"), (0, .fieldref 7 22), (0, .nameAndType 23 12), (0, u "keys"), (0, .fieldref 7 25), (0, .nameAndType 26 27), (0, u "values"), (0, u "[Ljava/lang/Object;"), (0, .fieldref 7 29), (0, .nameAndType 30 16), (0, u "size"), (12, u "numberOf"), (0, u "([BIIII)I"), (0, .fieldref 7 46), (0, .nameAndType 47 16), (0, u "recent"), (0, .methodref 7 49), (0, .nameAndType 50 51), (0, u "matches"), (0, u "(I[BIIII)Z"), (0, .methodref 7 53), (0, .nameAndType 54 44), (0, u "search"), (2, u "keep"), (0, u "([BIIIILjava/lang/Object;)I"), (9, .fieldref 7 69), (0, .nameAndType 70 16), (0, u "keyBytesTaken"), (3, .methodref 75 76), (0, .class_ 77), (0, .nameAndType 78 79), (0, u "java/lang/System"), (0, u "arraycopy"), (0, u "(Ljava/lang/Object;ILjava/lang/Object;II)V"), (0, .methodref 7 81), (0, .nameAndType 82 83), (0, u "hash"), (0, u "([BIII)I"), (0, .methodref 7 85), (0, .nameAndType 86 87), (0, u "freeSlot"), (0, u "(I)I"), (0, .methodref 7 89), (0, .nameAndType 90 87), (0, u "slotOf"), (0, .integer 2654435769), (2, u "FIRST_BITS"), (2, u "SPREAD")] 19

def k2c0 : Code := { maxStack := 2, maxLocals := 1, code := prog_20_method_1_code, exceptionTable := #[], attributes := #[] }
def k2m0 : Method := { name := "<init>", desc := "()V", sig := { parameters := [], returnType := none }, accessFlags := 0, code := some k2c0 }
def k2c1 : Code := { maxStack := 7, maxLocals := 7, code := prog_20_method_6_code, exceptionTable := #[], attributes := #[] }
def k2m1 : Method := { name := "numberOf", desc := "([BIIII)I", sig := { parameters := [(.array .byte), .int, .int, .int, .int], returnType := some .int }, accessFlags := 0, code := some k2c1 }
def k2c2 : Code := { maxStack := 7, maxLocals := 11, code := prog_20_method_8_code, exceptionTable := #[], attributes := #[] }
def k2m2 : Method := { name := "keep", desc := "([BIIIILjava/lang/Object;)I", sig := { parameters := [(.array .byte), .int, .int, .int, .int, (.object "java/lang/Object")], returnType := some .int }, accessFlags := 0, code := some k2c2 }
def k2c3 : Code := { maxStack := 7, maxLocals := 10, code := prog_20_method_9_code, exceptionTable := #[], attributes := #[] }
def k2m3 : Method := { name := "search", desc := "([BIIII)I", sig := { parameters := [(.array .byte), .int, .int, .int, .int], returnType := some .int }, accessFlags := 2, code := some k2c3 }
def k2c4 : Code := { maxStack := 3, maxLocals := 6, code := prog_20_method_10_code, exceptionTable := #[], attributes := #[] }
def k2m4 : Method := { name := "hash", desc := "([BIII)I", sig := { parameters := [(.array .byte), .int, .int, .int], returnType := some .int }, accessFlags := 10, code := some k2c4 }
def k2c5 : Code := { maxStack := 4, maxLocals := 12, code := prog_20_method_11_code, exceptionTable := #[], attributes := #[] }
def k2m5 : Method := { name := "matches", desc := "(I[BIIII)Z", sig := { parameters := [.int, (.array .byte), .int, .int, .int, .int], returnType := some .boolean }, accessFlags := 2, code := some k2c5 }
def k2c6 : Code := { maxStack := 3, maxLocals := 2, code := prog_20_method_12_code, exceptionTable := #[], attributes := #[] }
def k2m6 : Method := { name := "slotOf", desc := "(I)I", sig := { parameters := [.int], returnType := some .int }, accessFlags := 2, code := some k2c6 }
def k2c7 : Code := { maxStack := 3, maxLocals := 4, code := prog_20_method_13_code, exceptionTable := #[], attributes := #[] }
def k2m7 : Method := { name := "freeSlot", desc := "(I)I", sig := { parameters := [.int], returnType := some .int }, accessFlags := 2, code := some k2c7 }
/-- com/example/vestbook/vestbook/FirstCopies -/
def k2 : Class := { plain "com/example/vestbook/vestbook/FirstCopies" (some 0) with
  accessFlags := 48
  interfaces := #[]
  cf := some (fileOf pool2 7 #[] #[{ accessFlags := 0, nameIndex := 5, descriptorIndex := 6, attributes := #[] }, { accessFlags := 0, nameIndex := 43, descriptorIndex := 44, attributes := #[] }, { accessFlags := 0, nameIndex := 57, descriptorIndex := 58, attributes := #[] }, { accessFlags := 2, nameIndex := 54, descriptorIndex := 44, attributes := #[] }, { accessFlags := 10, nameIndex := 82, descriptorIndex := 83, attributes := #[] }, { accessFlags := 2, nameIndex := 50, descriptorIndex := 51, attributes := #[] }, { accessFlags := 2, nameIndex := 90, descriptorIndex := 87, attributes := #[] }, { accessFlags := 2, nameIndex := 86, descriptorIndex := 87, attributes := #[] }] 48 2 #[] #[{ accessFlags := 26, nameIndex := 94, descriptorIndex := 16, attributes := #[] }, { accessFlags := 26, nameIndex := 97, descriptorIndex := 16, attributes := #[] }, { accessFlags := 2, nameIndex := 11, descriptorIndex := 12, attributes := #[] }, { accessFlags := 2, nameIndex := 15, descriptorIndex := 16, attributes := #[] }, { accessFlags := 2, nameIndex := 19, descriptorIndex := 20, attributes := #[] }, { accessFlags := 2, nameIndex := 70, descriptorIndex := 16, attributes := #[] }, { accessFlags := 2, nameIndex := 23, descriptorIndex := 12, attributes := #[] }, { accessFlags := 2, nameIndex := 26, descriptorIndex := 27, attributes := #[] }, { accessFlags := 2, nameIndex := 30, descriptorIndex := 16, attributes := #[] }, { accessFlags := 2, nameIndex := 47, descriptorIndex := 16, attributes := #[] }])
  fields := #[{ name := "FIRST_BITS", type := .int, accessFlags := 26, slot := 0, constantValue := 0 }, { name := "SPREAD", type := .int, accessFlags := 26, slot := 1, constantValue := 0 }, { name := "slots", type := (.array .int), accessFlags := 2, slot := 0, constantValue := 0 }, { name := "bits", type := .int, accessFlags := 2, slot := 1, constantValue := 0 }, { name := "keyBytes", type := (.array .byte), accessFlags := 2, slot := 2, constantValue := 0 }, { name := "keyBytesTaken", type := .int, accessFlags := 2, slot := 3, constantValue := 0 }, { name := "keys", type := (.array .int), accessFlags := 2, slot := 4, constantValue := 0 }, { name := "values", type := (.array (.object "java/lang/Object")), accessFlags := 2, slot := 5, constantValue := 0 }, { name := "size", type := .int, accessFlags := 2, slot := 6, constantValue := 0 }, { name := "recent", type := .int, accessFlags := 2, slot := 7, constantValue := 0 }]
  methods := #[k2m0, k2m1, k2m2, k2m3, k2m4, k2m5, k2m6, k2m7]
  instanceTypes := #[(.array .int), .int, (.array .byte), .int, (.array .int), (.array (.object "java/lang/Object")), .int, .int]
  staticTypes := #[.int, .int]
  resolved := Array.replicate 117 none
  statics := none }

def pool3 : Array CpInfo := pool [(2, .class_ 4), (1, u "java/lang/Object"), (0, u "<init>"), (0, u "()V"), (1, .class_ 10), (1, u "java/lang/System"), (0, u "allowSecurityManager"), (0, u "I"), (16, u "cons"), (0, u "Ljava/io/Console;"), (77, .class_ 110), (1, u "java/lang/System$CallersHolder"), (43, u "initialErrStream"), (0, u "Ljava/io/PrintStream;"), (19, u "security"), (0, u "Ljava/lang/SecurityManager;"), (31, .class_ 209), (0, u "java/lang/System$1"), (7, u "props"), (0, u "Ljava/util/Properties;"), (2, u "lineSeparator"), (0, u "Ljava/lang/String;"), (96, .class_ 321), (1, u "java/lang/System$LoggerFinder"), (5, .class_ 328), (0, u "java/lang/System$Logger"), (67, u "err"), (2, u "out"), (91, u "notSupportedJnuEncoding"), (15, u "in"), (17, u "initialIn"), (0, u "Ljava/io/InputStream;"), (35, u "bootLayer"), (0, u "Ljava/lang/ModuleLayer;"), (99, .class_ 664), (0, u "java/lang/System$2"), (9, u "NEVER"), (2, u "MAYBE"), (49, u "arraycopy"), (0, u "(Ljava/lang/Object;ILjava/lang/Object;II)V"), (72, .class_ 802), (0, u "java/lang/System$Logger$Level")] 31

def k3m0 : Method := { name := "<init>", desc := "()V", sig := { parameters := [], returnType := none }, accessFlags := 2, code := none }
def k3m1 : Method := { name := "arraycopy", desc := "(Ljava/lang/Object;ILjava/lang/Object;II)V", sig := { parameters := [(.object "java/lang/Object"), .int, (.object "java/lang/Object"), .int, .int], returnType := none }, accessFlags := 265, code := none }
/-- java/lang/System -/
def k3 : Class := { plain "java/lang/System" (some 0) with
  accessFlags := 49
  interfaces := #[]
  cf := some (fileOf pool3 8 #[.nestMembers #[319, 327, 801, 108, 663, 208]] #[{ accessFlags := 2, nameIndex := 5, descriptorIndex := 6, attributes := #[] }, { accessFlags := 265, nameIndex := 727, descriptorIndex := 728, attributes := #[] }] 49 2 #[] #[{ accessFlags := 25, nameIndex := 507, descriptorIndex := 526, attributes := #[] }, { accessFlags := 25, nameIndex := 399, descriptorIndex := 155, attributes := #[] }, { accessFlags := 25, nameIndex := 396, descriptorIndex := 155, attributes := #[] }, { accessFlags := 10, nameIndex := 525, descriptorIndex := 526, attributes := #[] }, { accessFlags := 26, nameIndex := 674, descriptorIndex := 12, attributes := #[] }, { accessFlags := 26, nameIndex := 677, descriptorIndex := 12, attributes := #[] }, { accessFlags := 10, nameIndex := 11, descriptorIndex := 12, attributes := #[] }, { accessFlags := 74, nameIndex := 175, descriptorIndex := 176, attributes := #[] }, { accessFlags := 10, nameIndex := 491, descriptorIndex := 222, attributes := #[] }, { accessFlags := 74, nameIndex := 29, descriptorIndex := 30, attributes := #[] }, { accessFlags := 74, nameIndex := 154, descriptorIndex := 155, attributes := #[] }, { accessFlags := 10, nameIndex := 217, descriptorIndex := 218, attributes := #[] }, { accessFlags := 10, nameIndex := 221, descriptorIndex := 222, attributes := #[] }, { accessFlags := 8, nameIndex := 562, descriptorIndex := 563, attributes := #[] }])
  fields := #[{ name := "in", type := (.object "java/io/InputStream"), accessFlags := 25, slot := 0, constantValue := 0 }, { name := "out", type := (.object "java/io/PrintStream"), accessFlags := 25, slot := 1, constantValue := 0 }, { name := "err", type := (.object "java/io/PrintStream"), accessFlags := 25, slot := 2, constantValue := 0 }, { name := "initialIn", type := (.object "java/io/InputStream"), accessFlags := 10, slot := 3, constantValue := 0 }, { name := "NEVER", type := .int, accessFlags := 26, slot := 4, constantValue := 0 }, { name := "MAYBE", type := .int, accessFlags := 26, slot := 5, constantValue := 0 }, { name := "allowSecurityManager", type := .int, accessFlags := 10, slot := 6, constantValue := 0 }, { name := "security", type := (.object "java/lang/SecurityManager"), accessFlags := 74, slot := 7, constantValue := 0 }, { name := "notSupportedJnuEncoding", type := (.object "java/lang/String"), accessFlags := 10, slot := 8, constantValue := 0 }, { name := "cons", type := (.object "java/io/Console"), accessFlags := 74, slot := 9, constantValue := 0 }, { name := "initialErrStream", type := (.object "java/io/PrintStream"), accessFlags := 74, slot := 10, constantValue := 0 }, { name := "props", type := (.object "java/util/Properties"), accessFlags := 10, slot := 11, constantValue := 0 }, { name := "lineSeparator", type := (.object "java/lang/String"), accessFlags := 10, slot := 12, constantValue := 0 }, { name := "bootLayer", type := (.object "java/lang/ModuleLayer"), accessFlags := 8, slot := 13, constantValue := 0 }]
  methods := #[k3m0, k3m1]
  instanceTypes := #[]
  staticTypes := #[(.object "java/io/InputStream"), (.object "java/io/PrintStream"), (.object "java/io/PrintStream"), (.object "java/io/InputStream"), .int, .int, .int, (.object "java/lang/SecurityManager"), (.object "java/lang/String"), (.object "java/io/Console"), (.object "java/io/PrintStream"), (.object "java/util/Properties"), (.object "java/lang/String"), (.object "java/lang/ModuleLayer")]
  resolved := Array.replicate 834 none
  statics := none }

def pool4 : Array CpInfo := pool [(1, u "java/lang/Cloneable"), (0, .class_ 1), (0, u "java/lang/Object"), (0, .class_ 3)] 3

/-- java/lang/Cloneable -/
def k4 : Class := { plain "java/lang/Cloneable" (some 0) with
  accessFlags := 1537
  interfaces := #[]
  cf := some (fileOf pool4 2 #[] #[] 1537 4 #[] #[])
  fields := #[]
  methods := #[]
  instanceTypes := #[]
  staticTypes := #[]
  resolved := Array.replicate 8 none
  statics := none }

def pool5 : Array CpInfo := pool [(1, u "java/io/Serializable"), (0, .class_ 1), (0, u "java/lang/Object"), (0, .class_ 3)] 3

/-- java/io/Serializable -/
def k5 : Class := { plain "java/io/Serializable" (some 0) with
  accessFlags := 1537
  interfaces := #[]
  cf := some (fileOf pool5 2 #[] #[] 1537 4 #[] #[])
  fields := #[]
  methods := #[]
  instanceTypes := #[]
  staticTypes := #[]
  resolved := Array.replicate 8 none
  statics := none }

/-- the primitive byte -/
def k6 : Class := { plain "byte" none with kind := .primitive 'B', accessFlags := 0x411 }
/-- [B -/
def k7 : Class := { plain "[B" (some 0) with kind := .array 6 .byte, interfaces := #[4, 5], accessFlags := 1041 }

/-- the primitive int -/
def k8 : Class := { plain "int" none with kind := .primitive 'I', accessFlags := 0x411 }
/-- [I -/
def k9 : Class := { plain "[I" (some 0) with kind := .array 8 .int, interfaces := #[4, 5], accessFlags := 1041 }

/-- [Ljava/lang/Object; -/
def k10 : Class := { plain "[Ljava/lang/Object;" (some 0) with kind := .array 0 (.object "java/lang/Object"), interfaces := #[4, 5], accessFlags := 1041 }

def heap : Heap := #[]
def classes : Array Class := #[k0, k1, k2, k3, k4, k5, k6, k7, k8, k9, k10]
def interned : List (Array UInt16 × Addr) := []
def slotsUsed : Nat := 0
def theMethod : MethodId := ⟨1, 1⟩
def args0 : Array Value := #[.int 5, .int 7, .int 9, .int 11, .int 196608, .int 3]
def aboutOver (below : List Frame) : State where
  vm := { classes := classes, interned := interned.toArray }
  heap := heap
  slotsUsed := slotsUsed
  threads := #[{ frames := .invoking theMethod args0 :: below }]
def below0 : List Frame := [.native { method := ⟨0, 0⟩, args := #[] }]
def about1 : State := aboutOver below0
def p0 : Program := .bare "" "" ""
def e0 : Env := launch0.env 0 0 0
theorem w_frames : about1.frames = Frame.invoking theMethod args0 :: below0 := rfl
set_option maxRecDepth 65536 in
theorem w_args : argsFit about1.vm theMethod args0 = true := by decide +kernel
set_option maxRecDepth 65536 in
theorem w_heap : heapFits about1 = true := by decide +kernel
set_option maxRecDepth 65536 in
theorem w_runnable : about1.curStatus? = some .runnable := by decide +kernel
set_option maxRecDepth 65536 in
theorem w_alone : about1.alone = true := by decide +kernel
set_option maxRecDepth 65536 in
theorem w_named : about1.methodNamed? x = some theMethod := by decide +kernel
set_option maxRecDepth 65536 in
theorem w_hears : about1.hears theMethod below0 = true := by decide +kernel
set_option maxRecDepth 65536 in
theorem w_ripe : about1.ripe theMethod args0 below0 = true := by decide +kernel
theorem w_running : about1.status = .running := rfl
set_option maxRecDepth 65536 in
theorem w_room : about1.hasRoom e0.platform room_1 = true :=
  launch0.hasRoom_least _ room_1 (by decide +kernel) (by decide +kernel) (by decide +kernel) (by decide +kernel) (by decide +kernel) (by decide +kernel)
theorem allAtoms_all (ts : List Jvm.Cond) (a : Array Jvm.Value) (st : Jvm.State) : (allAtoms ts).before a st = ts.all (fun c => c.before a st) := by
  induction ts with
  | nil => rfl
  | cons c t ih =>
    show (Jvm.Cond.and c (allAtoms t)).before a st = _
    rw [Jvm.Cond.before_and, ih, List.all_cons]
def words1 : List Jvm.Cond := Jvm.Cond.code x code maxLocals ret :: tables_1
/-- a 'code' word, met by the world's own term for the bytes: nothing is compared byte by byte -/
theorem code_word {y : MethodName} {bytes : ByteArray} {mx : Nat} {rt : Option FieldType} {a : Array Value} {s : State} {m : MethodId} {meth : Method} {c : Code} (h1 : s.methodNamed? y = some m) (h2 : s.vm.method? m = some meth) (h3 : meth.code = some c) (h4 : c.code = bytes)
    (h5 : (c.maxLocals == mx && c.exceptionTable.isEmpty && decide (c.maxStack ≤ mostOperands) && decide (meth.sig.returnType = rt) && !meth.locks && decide (parseMethodDescriptor y.desc = some meth.sig)) = true) : (Jvm.Cond.code y bytes mx rt).before a s = true := by
  simp only [Bool.and_eq_true, beq_iff_eq, Bool.not_eq_true', decide_eq_true_eq] at h5
  obtain ⟨⟨⟨⟨⟨g1, g2⟩, g3⟩, g4⟩, g5⟩, g6⟩ := h5
  simp [Cond.before, Cond.holds, Cond.value, h1, h2, h3, h4, g1, g2, g3, g4, g5, g6]
def isCode : Jvm.Cond → Bool
  | .code _ _ _ _ => true
  | _ => false
theorem all_split {L : List Jvm.Cond} {P : Jvm.Cond → Bool} (h1 : L.all (fun c => isCode c || P c) = true) (h2 : ∀ c ∈ L.filter isCode, P c = true) : L.all P = true := by
  refine List.all_eq_true.mpr fun c hc => ?_
  have h := List.all_eq_true.mp h1 c hc
  rcases Bool.eq_false_or_eq_true (isCode c) with hi | hi
  · exact h2 c (List.mem_filter.mpr ⟨hc, hi⟩)
  · simpa [hi] using h
set_option maxRecDepth 65536 in
theorem w_c0 : (Jvm.Cond.code x code maxLocals ret).before args0 about1 = true := code_word (m := ⟨1, 1⟩) (meth := k1m1) (c := k1c1) (by decide +kernel) rfl rfl rfl (by decide +kernel)
set_option maxRecDepth 65536 in
theorem w_c1 : (Jvm.Cond.code ({ cls := "com/example/vestbook/vestbook/FirstCopiesNumberOfPinLaw", name := "fill", desc := "([III)V" } : Jvm.MethodName) method_3_code (5 : Nat) (Option.none : Option Jvm.ClassFile.FieldType)).before args0 about1 = true := code_word (m := ⟨1, 2⟩) (meth := k1m2) (c := k1c2) (by decide +kernel) rfl rfl rfl (by decide +kernel)
set_option maxRecDepth 65536 in
theorem w_c2 : (Jvm.Cond.code ({ cls := "com/example/vestbook/vestbook/FirstCopies", name := "<init>", desc := "()V" } : Jvm.MethodName) prog_20_method_1_code (1 : Nat) (Option.none : Option Jvm.ClassFile.FieldType)).before args0 about1 = true := code_word (m := ⟨2, 0⟩) (meth := k2m0) (c := k2c0) (by decide +kernel) rfl rfl rfl (by decide +kernel)
set_option maxRecDepth 65536 in
theorem w_c3 : (Jvm.Cond.code ({ cls := "java/lang/Object", name := "<init>", desc := "()V" } : Jvm.MethodName) object_method_1_code (1 : Nat) (Option.none : Option Jvm.ClassFile.FieldType)).before args0 about1 = true := code_word (m := ⟨0, 0⟩) (meth := k0m0) (c := k0c0) (by decide +kernel) rfl rfl rfl (by decide +kernel)
set_option maxRecDepth 65536 in
theorem w_c4 : (Jvm.Cond.code ({ cls := "com/example/vestbook/vestbook/FirstCopies", name := "numberOf", desc := "([BIIII)I" } : Jvm.MethodName) prog_20_method_6_code (7 : Nat) (Option.some Jvm.ClassFile.FieldType.int)).before args0 about1 = true := code_word (m := ⟨2, 1⟩) (meth := k2m1) (c := k2c1) (by decide +kernel) rfl rfl rfl (by decide +kernel)
set_option maxRecDepth 65536 in
theorem w_c5 : (Jvm.Cond.code ({ cls := "com/example/vestbook/vestbook/FirstCopies", name := "search", desc := "([BIIII)I" } : Jvm.MethodName) prog_20_method_9_code (10 : Nat) (Option.some Jvm.ClassFile.FieldType.int)).before args0 about1 = true := code_word (m := ⟨2, 3⟩) (meth := k2m3) (c := k2c3) (by decide +kernel) rfl rfl rfl (by decide +kernel)
set_option maxRecDepth 65536 in
theorem w_c6 : (Jvm.Cond.code ({ cls := "com/example/vestbook/vestbook/FirstCopies", name := "hash", desc := "([BIII)I" } : Jvm.MethodName) prog_20_method_10_code (6 : Nat) (Option.some Jvm.ClassFile.FieldType.int)).before args0 about1 = true := code_word (m := ⟨2, 4⟩) (meth := k2m4) (c := k2c4) (by decide +kernel) rfl rfl rfl (by decide +kernel)
set_option maxRecDepth 65536 in
theorem w_c7 : (Jvm.Cond.code ({ cls := "com/example/vestbook/vestbook/FirstCopies", name := "slotOf", desc := "(I)I" } : Jvm.MethodName) prog_20_method_12_code (2 : Nat) (Option.some Jvm.ClassFile.FieldType.int)).before args0 about1 = true := code_word (m := ⟨2, 6⟩) (meth := k2m6) (c := k2c6) (by decide +kernel) rfl rfl rfl (by decide +kernel)
set_option maxRecDepth 65536 in
theorem w_c8 : (Jvm.Cond.code ({ cls := "com/example/vestbook/vestbook/FirstCopiesNumberOfPinLaw", name := "expected", desc := "([B[I[II)I" } : Jvm.MethodName) method_7_code (5 : Nat) (Option.some Jvm.ClassFile.FieldType.int)).before args0 about1 = true := code_word (m := ⟨1, 6⟩) (meth := k1m6) (c := k1c6) (by decide +kernel) rfl rfl rfl (by decide +kernel)
set_option maxRecDepth 65536 in
theorem w_c9 : (Jvm.Cond.code ({ cls := "com/example/vestbook/vestbook/FirstCopiesNumberOfPinLaw", name := "keep", desc := "(Lcom/example/vestbook/vestbook/FirstCopies;[B[II)V" } : Jvm.MethodName) method_4_code (4 : Nat) (Option.none : Option Jvm.ClassFile.FieldType)).before args0 about1 = true := code_word (m := ⟨1, 3⟩) (meth := k1m3) (c := k1c3) (by decide +kernel) rfl rfl rfl (by decide +kernel)
set_option maxRecDepth 65536 in
theorem w_c10 : (Jvm.Cond.code ({ cls := "com/example/vestbook/vestbook/FirstCopies", name := "keep", desc := "([BIIIILjava/lang/Object;)I" } : Jvm.MethodName) prog_20_method_8_code (11 : Nat) (Option.some Jvm.ClassFile.FieldType.int)).before args0 about1 = true := code_word (m := ⟨2, 2⟩) (meth := k2m2) (c := k2c2) (by decide +kernel) rfl rfl rfl (by decide +kernel)
set_option maxRecDepth 65536 in
theorem w_c11 : (Jvm.Cond.code ({ cls := "com/example/vestbook/vestbook/FirstCopies", name := "freeSlot", desc := "(I)I" } : Jvm.MethodName) prog_20_method_13_code (4 : Nat) (Option.some Jvm.ClassFile.FieldType.int)).before args0 about1 = true := code_word (m := ⟨2, 7⟩) (meth := k2m7) (c := k2c7) (by decide +kernel) rfl rfl rfl (by decide +kernel)
set_option maxRecDepth 65536 in
theorem w_c12 : (Jvm.Cond.code ({ cls := "com/example/vestbook/vestbook/FirstCopiesNumberOfPinLaw", name := "eqKey", desc := "([B[III)Z" } : Jvm.MethodName) method_6_code (4 : Nat) (Option.some Jvm.ClassFile.FieldType.boolean)).before args0 about1 = true := code_word (m := ⟨1, 5⟩) (meth := k1m5) (c := k1c5) (by decide +kernel) rfl rfl rfl (by decide +kernel)
set_option maxRecDepth 65536 in
theorem w_c13 : (Jvm.Cond.code ({ cls := "com/example/vestbook/vestbook/FirstCopiesNumberOfPinLaw", name := "same", desc := "([BIIII)Z" } : Jvm.MethodName) method_5_code (5 : Nat) (Option.some Jvm.ClassFile.FieldType.boolean)).before args0 about1 = true := code_word (m := ⟨1, 4⟩) (meth := k1m4) (c := k1c4) (by decide +kernel) rfl rfl rfl (by decide +kernel)
set_option maxRecDepth 65536 in
theorem w_c14 : (Jvm.Cond.code ({ cls := "com/example/vestbook/vestbook/FirstCopies", name := "matches", desc := "(I[BIIII)Z" } : Jvm.MethodName) prog_20_method_11_code (12 : Nat) (Option.some Jvm.ClassFile.FieldType.boolean)).before args0 about1 = true := code_word (m := ⟨2, 5⟩) (meth := k2m5) (c := k2c5) (by decide +kernel) rfl rfl rfl (by decide +kernel)
def codes1 : List Jvm.Cond := [Jvm.Cond.code x code maxLocals ret, Jvm.Cond.code ({ cls := "com/example/vestbook/vestbook/FirstCopiesNumberOfPinLaw", name := "fill", desc := "([III)V" } : Jvm.MethodName) method_3_code (5 : Nat) (Option.none : Option Jvm.ClassFile.FieldType), Jvm.Cond.code ({ cls := "com/example/vestbook/vestbook/FirstCopies", name := "<init>", desc := "()V" } : Jvm.MethodName) prog_20_method_1_code (1 : Nat) (Option.none : Option Jvm.ClassFile.FieldType), Jvm.Cond.code ({ cls := "java/lang/Object", name := "<init>", desc := "()V" } : Jvm.MethodName) object_method_1_code (1 : Nat) (Option.none : Option Jvm.ClassFile.FieldType), Jvm.Cond.code ({ cls := "com/example/vestbook/vestbook/FirstCopies", name := "numberOf", desc := "([BIIII)I" } : Jvm.MethodName) prog_20_method_6_code (7 : Nat) (Option.some Jvm.ClassFile.FieldType.int), Jvm.Cond.code ({ cls := "com/example/vestbook/vestbook/FirstCopies", name := "search", desc := "([BIIII)I" } : Jvm.MethodName) prog_20_method_9_code (10 : Nat) (Option.some Jvm.ClassFile.FieldType.int), Jvm.Cond.code ({ cls := "com/example/vestbook/vestbook/FirstCopies", name := "hash", desc := "([BIII)I" } : Jvm.MethodName) prog_20_method_10_code (6 : Nat) (Option.some Jvm.ClassFile.FieldType.int), Jvm.Cond.code ({ cls := "com/example/vestbook/vestbook/FirstCopies", name := "slotOf", desc := "(I)I" } : Jvm.MethodName) prog_20_method_12_code (2 : Nat) (Option.some Jvm.ClassFile.FieldType.int), Jvm.Cond.code ({ cls := "com/example/vestbook/vestbook/FirstCopiesNumberOfPinLaw", name := "expected", desc := "([B[I[II)I" } : Jvm.MethodName) method_7_code (5 : Nat) (Option.some Jvm.ClassFile.FieldType.int), Jvm.Cond.code ({ cls := "com/example/vestbook/vestbook/FirstCopiesNumberOfPinLaw", name := "keep", desc := "(Lcom/example/vestbook/vestbook/FirstCopies;[B[II)V" } : Jvm.MethodName) method_4_code (4 : Nat) (Option.none : Option Jvm.ClassFile.FieldType), Jvm.Cond.code ({ cls := "com/example/vestbook/vestbook/FirstCopies", name := "keep", desc := "([BIIIILjava/lang/Object;)I" } : Jvm.MethodName) prog_20_method_8_code (11 : Nat) (Option.some Jvm.ClassFile.FieldType.int), Jvm.Cond.code ({ cls := "com/example/vestbook/vestbook/FirstCopies", name := "freeSlot", desc := "(I)I" } : Jvm.MethodName) prog_20_method_13_code (4 : Nat) (Option.some Jvm.ClassFile.FieldType.int), Jvm.Cond.code ({ cls := "com/example/vestbook/vestbook/FirstCopiesNumberOfPinLaw", name := "eqKey", desc := "([B[III)Z" } : Jvm.MethodName) method_6_code (4 : Nat) (Option.some Jvm.ClassFile.FieldType.boolean), Jvm.Cond.code ({ cls := "com/example/vestbook/vestbook/FirstCopiesNumberOfPinLaw", name := "same", desc := "([BIIII)Z" } : Jvm.MethodName) method_5_code (5 : Nat) (Option.some Jvm.ClassFile.FieldType.boolean), Jvm.Cond.code ({ cls := "com/example/vestbook/vestbook/FirstCopies", name := "matches", desc := "(I[BIIII)Z" } : Jvm.MethodName) prog_20_method_11_code (12 : Nat) (Option.some Jvm.ClassFile.FieldType.boolean)]
set_option maxRecDepth 65536 in
theorem codes_eq : words1.filter isCode = codes1 := rfl
theorem w_codes : ∀ c ∈ words1.filter isCode, c.before args0 about1 = true := by
  rw [codes_eq]
  intro c hc
  simp only [codes1, List.mem_cons, List.not_mem_nil, or_false] at hc
  rcases hc with rfl | rfl | rfl | rfl | rfl | rfl | rfl | rfl | rfl | rfl | rfl | rfl | rfl | rfl | rfl
  · exact w_c0
  · exact w_c1
  · exact w_c2
  · exact w_c3
  · exact w_c4
  · exact w_c5
  · exact w_c6
  · exact w_c7
  · exact w_c8
  · exact w_c9
  · exact w_c10
  · exact w_c11
  · exact w_c12
  · exact w_c13
  · exact w_c14
set_option maxRecDepth 65536 in
theorem w_t1 : (words1.take 24).all (fun c => isCode c || c.before args0 about1) = true := by decide +kernel
set_option maxRecDepth 65536 in
theorem w_t2 : ((words1.drop 24).take 24).all (fun c => isCode c || c.before args0 about1) = true := by decide +kernel
set_option maxRecDepth 65536 in
theorem w_t3 : (((words1.drop 24).drop 24).take 24).all (fun c => isCode c || c.before args0 about1) = true := by decide +kernel
set_option maxRecDepth 65536 in
theorem w_t4 : (((words1.drop 24).drop 24).drop 24).all (fun c => isCode c || c.before args0 about1) = true := by decide +kernel
theorem w_tables : (allAtoms (Jvm.Cond.code x code maxLocals ret :: tables_1)).before args0 about1 = true := by
  rw [allAtoms_all]
  show words1.all (fun c => c.before args0 about1) = true
  refine all_split ?_ w_codes
  rw [← List.take_append_drop 24 words1, List.all_append, w_t1, ← List.take_append_drop 24 (words1.drop 24), List.all_append, w_t2, ← List.take_append_drop 24 ((words1.drop 24).drop 24), List.all_append, w_t3, w_t4]
  rfl
set_option maxRecDepth 65536 in
theorem w_case : (Jvm.Cond.and given_1 narrow_1).before args0 about1 = true := by decide +kernel
theorem w_applies : (headSpec (Jvm.Cond.code x code maxLocals ret :: tables_1) room_1).applies x e0.platform about1 = true :=
  (Spec.applies_iff w_frames).mpr ⟨w_running, w_runnable, w_alone, w_named, w_hears, w_ripe, w_room, w_tables⟩
theorem atStart : AtStart classFile x code maxLocals ret World_1 tables_1 room_1 Calls_1 rest_1 Pre_1 launch0 p0 e0 about1 theMethod args0 below0 :=
  ⟨lists_1, trivial, launch0.admits_env _ _ _, launch0.least_env, fairChoices_fair.cas, fairChoices_fair.clock, w_frames, w_args, w_heap, w_applies, trivial, trivial, w_case⟩
end start1
theorem witness_1 : WitnessClaimed_1 := ⟨start1.p0, start1.e0, start1.about1, start1.theMethod, start1.args0, start1.below0, start1.atStart⟩
end Jvm.Pilot.@@N@@
