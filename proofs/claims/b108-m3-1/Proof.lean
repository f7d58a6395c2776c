import JvmDerived
import JvmDerived.Pilot.@@N@@Statement
import JvmDerived.Pilot.@@N@@Code
set_option linter.unusedVariables false
set_option linter.unusedSimpArgs false

namespace Jvm.Pilot.@@N@@
open Jvm Jvm.ClassFile Sem Op Lib Jvm.Free Jvm.Stand Jvm.LawKit Jvm.RoadKit Bundle Jvm.Pilot.@@N@@.Jvm.D
/-- from S the run comes to an end of which P holds -/
abbrev Ends (tb : Tables) (e : Env) (below : List Frame) (S : State) (P : State → Outcome → Prop) : Prop := ∃ t o, Steps tb e below S t ∧ P t o
theorem own_via {tb : Tables} {e : Env} {below : List Frame} {S S' : State} {P : State → Outcome → Prop} (h : ∀ t, Steps tb e below S' t → Steps tb e below S t) (k : Ends tb e below S' P) : Ends tb e below S P := by
  obtain ⟨t, o, a, b⟩ := k
  exact ⟨t, o, h t a, b⟩
theorem own_begin {tb : Tables} {e : Env} {below : List Frame} {T : State} {g g' : JFrame} {P : State → Outcome → Prop} (q : g = g') (k : Ends tb e below (T.setTop g') P) : ∃ t o, Steps tb e below (T.setTop g) t ∧ P t o := by
  subst q
  exact k
/-- several roads come to one place -/
theorem own_join {tb : Tables} {e : Env} {below : List Frame} {S0 : State} {P : State → Outcome → Prop} {α : Type} (S : α → State) (H : α → Prop) (k1 : (∀ w, H w → Ends tb e below (S w) P) → Ends tb e below S0 P) (k2 : ∀ w, H w → Ends tb e below (S w) P) : Ends tb e below S0 P := k1 k2
theorem own_rwm {s t : State} {o : Outcome} {L : List Loc} {k n k' n' : Nat} (h : ReturnedEndW s o t L k n) (h1 : k ≤ k') (h2 : n ≤ n') : ReturnedEndW s o t L k' n' := ⟨h.1, h.2.1, h.2.2.1, h.2.2.2.mono h1 h2⟩
theorem own_narR {v : Value} {C : String} (h : v.isRef = true) : narrow (.object C) v = v := by cases v <;> first | rfl | (simp [Value.isRef] at h)
theorem own_fitR {v : Value} {C : String} (h : v.isRef = true) : fits (.object C) v = true := by cases v <;> first | rfl | (simp [Value.isRef] at h)
theorem own_catR {v : Value} (h : v.isRef = true) : v.category = 1 := by cases v <;> first | rfl | (simp [Value.isRef] at h)
theorem own_selPriv {s : State} {args : Array Value} {y z : MethodName} (hz : z.cls = y.cls) (hsel : (Jvm.Cond.selects z.cls z z).before args s = true) (hpriv : s.PrivateAt y) (hinst : (Jvm.Cond.instanceMethod y).before args s = true) (hy : y.cls ≠ "java/lang/invoke/MethodHandle" ∧ y.cls ≠ "java/lang/invoke/VarHandle") : (Jvm.Cond.selects y.cls y y).before args s = true := by
  obtain ⟨c2, r2, m2, -, -, q3, -, kP, hkP, hkPi⟩ := Cond.selects_spec hsel
  exact selects_self_of_private (hz ▸ findClass_of_methodNamed q3) hkP hkPi hpriv hinst hy
section OwnSteps
variable {tb : Tables} [Ours tb] {e : Env} {below : List Frame} {T : State} {m : MethodId} {c : Code} {P : State → Outcome → Prop} {pc pc' : Nat} {ls l' : Array Slot} {st : List Value}
theorem s_iload (h : At T m c below) (hx : tb.exec = Jvm.exec) {k : Nat} {v : Int32} (hd : decode c.code pc = .ok (.iload k, 2)) (hl : ls[k]? = some (.val (.int v))) (hp : pc + 2 = pc') (hr : Ends tb e below (T.setTop (mkF m pc' ls (.int v :: st))) P) : Ends tb e below (T.setTop (mkF m pc ls st)) P := by
  subst hp
  exact own_via (fun t_ k_ => XS.iload h hx rfl hd hl k_) hr
theorem s_istore (h : At T m c below) (hx : tb.exec = Jvm.exec) {k : Nat} {v : Int32} (hd : decode c.code pc = .ok (.istore k, 2)) (hl : storeLocals ls k (.int v) = some l') (hp : pc + 2 = pc') (hr : Ends tb e below (T.setTop (mkF m pc' l' st)) P) : Ends tb e below (T.setTop (mkF m pc ls (.int v :: st))) P := by
  subst hp
  exact own_via (fun t_ k_ => XS.istore h hx rfl hd rfl hl k_) hr
theorem s_iloadN (h : At T m c below) (hx : tb.exec = Jvm.exec) {k : Fin 4} {v : Int32} (hd : decode c.code pc = .ok (.iload_n k, 1)) (hl : ls[k.val]? = some (.val (.int v))) (hp : pc + 1 = pc') (hr : Ends tb e below (T.setTop (mkF m pc' ls (.int v :: st))) P) : Ends tb e below (T.setTop (mkF m pc ls st)) P := by
  subst hp
  exact own_via (fun t_ k_ => XS.iloadN h hx rfl hd hl k_) hr
theorem s_istoreN (h : At T m c below) (hx : tb.exec = Jvm.exec) {k : Fin 4} {v : Int32} (hd : decode c.code pc = .ok (.istore_n k, 1)) (hl : storeLocals ls k.val (.int v) = some l') (hp : pc + 1 = pc') (hr : Ends tb e below (T.setTop (mkF m pc' l' st)) P) : Ends tb e below (T.setTop (mkF m pc ls (.int v :: st))) P := by
  subst hp
  exact own_via (fun t_ k_ => XS.istoreN h hx rfl hd rfl hl k_) hr
theorem s_lload (h : At T m c below) (hx : tb.exec = Jvm.exec) {k : Nat} {v : Int64} (hd : decode c.code pc = .ok (.lload k, 2)) (hl : ls[k]? = some (.val (.long v))) (hp : pc + 2 = pc') (hr : Ends tb e below (T.setTop (mkF m pc' ls (.long v :: st))) P) : Ends tb e below (T.setTop (mkF m pc ls st)) P := by
  subst hp
  exact own_via (fun t_ k_ => XS.lload h hx rfl hd hl k_) hr
theorem s_lstore (h : At T m c below) (hx : tb.exec = Jvm.exec) {k : Nat} {v : Int64} (hd : decode c.code pc = .ok (.lstore k, 2)) (hl : storeLocals ls k (.long v) = some l') (hp : pc + 2 = pc') (hr : Ends tb e below (T.setTop (mkF m pc' l' st)) P) : Ends tb e below (T.setTop (mkF m pc ls (.long v :: st))) P := by
  subst hp
  exact own_via (fun t_ k_ => XS.lstore h hx rfl hd rfl hl k_) hr
theorem s_lloadN (h : At T m c below) (hx : tb.exec = Jvm.exec) {k : Fin 4} {v : Int64} (hd : decode c.code pc = .ok (.lload_n k, 1)) (hl : ls[k.val]? = some (.val (.long v))) (hp : pc + 1 = pc') (hr : Ends tb e below (T.setTop (mkF m pc' ls (.long v :: st))) P) : Ends tb e below (T.setTop (mkF m pc ls st)) P := by
  subst hp
  exact own_via (fun t_ k_ => XS.lloadN h hx rfl hd hl k_) hr
theorem s_lstoreN (h : At T m c below) (hx : tb.exec = Jvm.exec) {k : Fin 4} {v : Int64} (hd : decode c.code pc = .ok (.lstore_n k, 1)) (hl : storeLocals ls k.val (.long v) = some l') (hp : pc + 1 = pc') (hr : Ends tb e below (T.setTop (mkF m pc' l' st)) P) : Ends tb e below (T.setTop (mkF m pc ls (.long v :: st))) P := by
  subst hp
  exact own_via (fun t_ k_ => XS.lstoreN h hx rfl hd rfl hl k_) hr
theorem s_dload (h : At T m c below) (hx : tb.exec = Jvm.exec) {k : Nat} {v : UInt64} (hd : decode c.code pc = .ok (.dload k, 2)) (hl : ls[k]? = some (.val (.double v))) (hp : pc + 2 = pc') (hr : Ends tb e below (T.setTop (mkF m pc' ls (.double v :: st))) P) : Ends tb e below (T.setTop (mkF m pc ls st)) P := by
  subst hp
  exact own_via (fun t_ k_ => XS.dload h hx rfl hd hl k_) hr
theorem s_dstore (h : At T m c below) (hx : tb.exec = Jvm.exec) {k : Nat} {v : UInt64} (hd : decode c.code pc = .ok (.dstore k, 2)) (hl : storeLocals ls k (.double v) = some l') (hp : pc + 2 = pc') (hr : Ends tb e below (T.setTop (mkF m pc' l' st)) P) : Ends tb e below (T.setTop (mkF m pc ls (.double v :: st))) P := by
  subst hp
  exact own_via (fun t_ k_ => XS.dstore h hx rfl hd rfl hl k_) hr
theorem s_dloadN (h : At T m c below) (hx : tb.exec = Jvm.exec) {k : Fin 4} {v : UInt64} (hd : decode c.code pc = .ok (.dload_n k, 1)) (hl : ls[k.val]? = some (.val (.double v))) (hp : pc + 1 = pc') (hr : Ends tb e below (T.setTop (mkF m pc' ls (.double v :: st))) P) : Ends tb e below (T.setTop (mkF m pc ls st)) P := by
  subst hp
  exact own_via (fun t_ k_ => XS.dloadN h hx rfl hd hl k_) hr
theorem s_dstoreN (h : At T m c below) (hx : tb.exec = Jvm.exec) {k : Fin 4} {v : UInt64} (hd : decode c.code pc = .ok (.dstore_n k, 1)) (hl : storeLocals ls k.val (.double v) = some l') (hp : pc + 1 = pc') (hr : Ends tb e below (T.setTop (mkF m pc' l' st)) P) : Ends tb e below (T.setTop (mkF m pc ls (.double v :: st))) P := by
  subst hp
  exact own_via (fun t_ k_ => XS.dstoreN h hx rfl hd rfl hl k_) hr
theorem s_aload (h : At T m c below) (hx : tb.exec = Jvm.exec) {k : Nat} {v : Value} (hd : decode c.code pc = .ok (.aload k, 2)) (hl : ls[k]? = some (.val v)) (hv : v.isRef = true) (hp : pc + 2 = pc') (hr : Ends tb e below (T.setTop (mkF m pc' ls (v :: st))) P) : Ends tb e below (T.setTop (mkF m pc ls st)) P := by
  subst hp
  exact own_via (fun t_ k_ => XS.aload h hx rfl hd hl hv k_) hr
theorem s_astore (h : At T m c below) (hx : tb.exec = Jvm.exec) {k : Nat} {v : Value} (hd : decode c.code pc = .ok (.astore k, 2)) (hv : v.isRef = true) (hl : storeLocals ls k v = some l') (hp : pc + 2 = pc') (hr : Ends tb e below (T.setTop (mkF m pc' l' st)) P) : Ends tb e below (T.setTop (mkF m pc ls (v :: st))) P := by
  subst hp
  exact own_via (fun t_ k_ => XS.astore h hx rfl hd rfl hv hl k_) hr
theorem s_aloadN (h : At T m c below) (hx : tb.exec = Jvm.exec) {k : Fin 4} {v : Value} (hd : decode c.code pc = .ok (.aload_n k, 1)) (hl : ls[k.val]? = some (.val v)) (hv : v.isRef = true) (hp : pc + 1 = pc') (hr : Ends tb e below (T.setTop (mkF m pc' ls (v :: st))) P) : Ends tb e below (T.setTop (mkF m pc ls st)) P := by
  subst hp
  exact own_via (fun t_ k_ => XS.aloadN h hx rfl hd hl hv k_) hr
theorem s_astoreN (h : At T m c below) (hx : tb.exec = Jvm.exec) {k : Fin 4} {v : Value} (hd : decode c.code pc = .ok (.astore_n k, 1)) (hv : v.isRef = true) (hl : storeLocals ls k.val v = some l') (hp : pc + 1 = pc') (hr : Ends tb e below (T.setTop (mkF m pc' l' st)) P) : Ends tb e below (T.setTop (mkF m pc ls (v :: st))) P := by
  subst hp
  exact own_via (fun t_ k_ => XS.astoreN h hx rfl hd rfl hv hl k_) hr
theorem s_iconst (h : At T m c below) (hx : tb.exec = Jvm.exec) {i : Int} {v : Int32} (hd : decode c.code pc = .ok (.iconst i, 1)) (hv : Int32.ofInt i = v) (hp : pc + 1 = pc') (hr : Ends tb e below (T.setTop (mkF m pc' ls (.int v :: st))) P) : Ends tb e below (T.setTop (mkF m pc ls st)) P := by
  subst hp hv
  exact own_via (fun t_ k_ => XS.iconst h hx rfl hd k_) hr
theorem s_bipush (h : At T m c below) (hx : tb.exec = Jvm.exec) {i : Int} {v : Int32} (hd : decode c.code pc = .ok (.bipush i, 2)) (hv : (Int8.ofInt i).toInt32 = v) (hp : pc + 2 = pc') (hr : Ends tb e below (T.setTop (mkF m pc' ls (.int v :: st))) P) : Ends tb e below (T.setTop (mkF m pc ls st)) P := by
  subst hp hv
  exact own_via (fun t_ k_ => XS.bipush h hx rfl hd k_) hr
theorem s_sipush (h : At T m c below) (hx : tb.exec = Jvm.exec) {i : Int} {v : Int32} (hd : decode c.code pc = .ok (.sipush i, 3)) (hv : (Int16.ofInt i).toInt32 = v) (hp : pc + 3 = pc') (hr : Ends tb e below (T.setTop (mkF m pc' ls (.int v :: st))) P) : Ends tb e below (T.setTop (mkF m pc ls st)) P := by
  subst hp hv
  exact own_via (fun t_ k_ => XS.sipush h hx rfl hd k_) hr
theorem s_lconst (h : At T m c below) (hx : tb.exec = Jvm.exec) {i : Fin 2} {v : Int64} (hd : decode c.code pc = .ok (.lconst i, 1)) (hv : Int64.ofNat i = v) (hp : pc + 1 = pc') (hr : Ends tb e below (T.setTop (mkF m pc' ls (.long v :: st))) P) : Ends tb e below (T.setTop (mkF m pc ls st)) P := by
  subst hp hv
  exact own_via (fun t_ k_ => XS.lconst h hx rfl hd k_) hr
theorem s_aconstNull (h : At T m c below) (hx : tb.exec = Jvm.exec)  (hd : decode c.code pc = .ok (.aconst_null, 1))  (hp : pc + 1 = pc') (hr : Ends tb e below (T.setTop (mkF m pc' ls (.null :: st))) P) : Ends tb e below (T.setTop (mkF m pc ls st)) P := by
  subst hp
  exact own_via (fun t_ k_ => XS.aconstNull h hx rfl hd k_) hr
theorem s_iadd (h : At T m c below) (hx : tb.exec = Jvm.exec) {x y : Int32} (hd : decode c.code pc = .ok (.iadd, 1))  (hp : pc + 1 = pc') (hr : Ends tb e below (T.setTop (mkF m pc' ls (.int (x + y) :: st))) P) : Ends tb e below (T.setTop (mkF m pc ls (.int y :: .int x :: st))) P := by
  subst hp
  exact own_via (fun t_ k_ => XS.iadd h hx rfl hd rfl k_) hr
theorem s_isub (h : At T m c below) (hx : tb.exec = Jvm.exec) {x y : Int32} (hd : decode c.code pc = .ok (.isub, 1))  (hp : pc + 1 = pc') (hr : Ends tb e below (T.setTop (mkF m pc' ls (.int (x - y) :: st))) P) : Ends tb e below (T.setTop (mkF m pc ls (.int y :: .int x :: st))) P := by
  subst hp
  exact own_via (fun t_ k_ => XS.isub h hx rfl hd rfl k_) hr
theorem s_imul (h : At T m c below) (hx : tb.exec = Jvm.exec) {x y : Int32} (hd : decode c.code pc = .ok (.imul, 1))  (hp : pc + 1 = pc') (hr : Ends tb e below (T.setTop (mkF m pc' ls (.int (x * y) :: st))) P) : Ends tb e below (T.setTop (mkF m pc ls (.int y :: .int x :: st))) P := by
  subst hp
  exact own_via (fun t_ k_ => XS.imul h hx rfl hd rfl k_) hr
theorem s_iand (h : At T m c below) (hx : tb.exec = Jvm.exec) {x y : Int32} (hd : decode c.code pc = .ok (.iand, 1))  (hp : pc + 1 = pc') (hr : Ends tb e below (T.setTop (mkF m pc' ls (.int (x &&& y) :: st))) P) : Ends tb e below (T.setTop (mkF m pc ls (.int y :: .int x :: st))) P := by
  subst hp
  exact own_via (fun t_ k_ => XS.iand h hx rfl hd rfl k_) hr
theorem s_ior (h : At T m c below) (hx : tb.exec = Jvm.exec) {x y : Int32} (hd : decode c.code pc = .ok (.ior, 1))  (hp : pc + 1 = pc') (hr : Ends tb e below (T.setTop (mkF m pc' ls (.int (x ||| y) :: st))) P) : Ends tb e below (T.setTop (mkF m pc ls (.int y :: .int x :: st))) P := by
  subst hp
  exact own_via (fun t_ k_ => XS.ior h hx rfl hd rfl k_) hr
theorem s_ixor (h : At T m c below) (hx : tb.exec = Jvm.exec) {x y : Int32} (hd : decode c.code pc = .ok (.ixor, 1))  (hp : pc + 1 = pc') (hr : Ends tb e below (T.setTop (mkF m pc' ls (.int (x ^^^ y) :: st))) P) : Ends tb e below (T.setTop (mkF m pc ls (.int y :: .int x :: st))) P := by
  subst hp
  exact own_via (fun t_ k_ => XS.ixor h hx rfl hd rfl k_) hr
theorem s_ishl (h : At T m c below) (hx : tb.exec = Jvm.exec) {x y : Int32} (hd : decode c.code pc = .ok (.ishl, 1))  (hp : pc + 1 = pc') (hr : Ends tb e below (T.setTop (mkF m pc' ls (.int (x <<< (y &&& 31)) :: st))) P) : Ends tb e below (T.setTop (mkF m pc ls (.int y :: .int x :: st))) P := by
  subst hp
  exact own_via (fun t_ k_ => XS.ishl h hx rfl hd rfl k_) hr
theorem s_ishr (h : At T m c below) (hx : tb.exec = Jvm.exec) {x y : Int32} (hd : decode c.code pc = .ok (.ishr, 1))  (hp : pc + 1 = pc') (hr : Ends tb e below (T.setTop (mkF m pc' ls (.int (x >>> (y &&& 31)) :: st))) P) : Ends tb e below (T.setTop (mkF m pc ls (.int y :: .int x :: st))) P := by
  subst hp
  exact own_via (fun t_ k_ => XS.ishr h hx rfl hd rfl k_) hr
theorem s_iushr (h : At T m c below) (hx : tb.exec = Jvm.exec) {x y : Int32} (hd : decode c.code pc = .ok (.iushr, 1))  (hp : pc + 1 = pc') (hr : Ends tb e below (T.setTop (mkF m pc' ls (.int ((x.toUInt32 >>> (y &&& 31).toUInt32).toInt32) :: st))) P) : Ends tb e below (T.setTop (mkF m pc ls (.int y :: .int x :: st))) P := by
  subst hp
  exact own_via (fun t_ k_ => XS.iushr h hx rfl hd rfl k_) hr
theorem s_ladd (h : At T m c below) (hx : tb.exec = Jvm.exec) {x y : Int64} (hd : decode c.code pc = .ok (.ladd, 1))  (hp : pc + 1 = pc') (hr : Ends tb e below (T.setTop (mkF m pc' ls (.long (x + y) :: st))) P) : Ends tb e below (T.setTop (mkF m pc ls (.long y :: .long x :: st))) P := by
  subst hp
  exact own_via (fun t_ k_ => XS.ladd h hx rfl hd rfl k_) hr
theorem s_lsub (h : At T m c below) (hx : tb.exec = Jvm.exec) {x y : Int64} (hd : decode c.code pc = .ok (.lsub, 1))  (hp : pc + 1 = pc') (hr : Ends tb e below (T.setTop (mkF m pc' ls (.long (x - y) :: st))) P) : Ends tb e below (T.setTop (mkF m pc ls (.long y :: .long x :: st))) P := by
  subst hp
  exact own_via (fun t_ k_ => XS.lsub h hx rfl hd rfl k_) hr
theorem s_lmul (h : At T m c below) (hx : tb.exec = Jvm.exec) {x y : Int64} (hd : decode c.code pc = .ok (.lmul, 1))  (hp : pc + 1 = pc') (hr : Ends tb e below (T.setTop (mkF m pc' ls (.long (x * y) :: st))) P) : Ends tb e below (T.setTop (mkF m pc ls (.long y :: .long x :: st))) P := by
  subst hp
  exact own_via (fun t_ k_ => XS.lmul h hx rfl hd rfl k_) hr
theorem s_land (h : At T m c below) (hx : tb.exec = Jvm.exec) {x y : Int64} (hd : decode c.code pc = .ok (.land, 1))  (hp : pc + 1 = pc') (hr : Ends tb e below (T.setTop (mkF m pc' ls (.long (x &&& y) :: st))) P) : Ends tb e below (T.setTop (mkF m pc ls (.long y :: .long x :: st))) P := by
  subst hp
  exact own_via (fun t_ k_ => XS.land h hx rfl hd rfl k_) hr
theorem s_lor (h : At T m c below) (hx : tb.exec = Jvm.exec) {x y : Int64} (hd : decode c.code pc = .ok (.lor, 1))  (hp : pc + 1 = pc') (hr : Ends tb e below (T.setTop (mkF m pc' ls (.long (x ||| y) :: st))) P) : Ends tb e below (T.setTop (mkF m pc ls (.long y :: .long x :: st))) P := by
  subst hp
  exact own_via (fun t_ k_ => XS.lor h hx rfl hd rfl k_) hr
theorem s_lxor (h : At T m c below) (hx : tb.exec = Jvm.exec) {x y : Int64} (hd : decode c.code pc = .ok (.lxor, 1))  (hp : pc + 1 = pc') (hr : Ends tb e below (T.setTop (mkF m pc' ls (.long (x ^^^ y) :: st))) P) : Ends tb e below (T.setTop (mkF m pc ls (.long y :: .long x :: st))) P := by
  subst hp
  exact own_via (fun t_ k_ => XS.lxor h hx rfl hd rfl k_) hr
theorem s_lshl (h : At T m c below) (hx : tb.exec = Jvm.exec) {x : Int64} {y : Int32} (hd : decode c.code pc = .ok (.lshl, 1))  (hp : pc + 1 = pc') (hr : Ends tb e below (T.setTop (mkF m pc' ls (.long (x <<< (y &&& 0x3f).toInt64) :: st))) P) : Ends tb e below (T.setTop (mkF m pc ls (.int y :: .long x :: st))) P := by
  subst hp
  exact own_via (fun t_ k_ => XS.lshl h hx rfl hd rfl k_) hr
theorem s_lshr (h : At T m c below) (hx : tb.exec = Jvm.exec) {x : Int64} {y : Int32} (hd : decode c.code pc = .ok (.lshr, 1))  (hp : pc + 1 = pc') (hr : Ends tb e below (T.setTop (mkF m pc' ls (.long (x >>> (y &&& 0x3f).toInt64) :: st))) P) : Ends tb e below (T.setTop (mkF m pc ls (.int y :: .long x :: st))) P := by
  subst hp
  exact own_via (fun t_ k_ => XS.lshr h hx rfl hd rfl k_) hr
theorem s_lushr (h : At T m c below) (hx : tb.exec = Jvm.exec) {x : Int64} {y : Int32} (hd : decode c.code pc = .ok (.lushr, 1))  (hp : pc + 1 = pc') (hr : Ends tb e below (T.setTop (mkF m pc' ls (.long ((x.toUInt64 >>> (y &&& 0x3f).toInt64.toUInt64).toInt64) :: st))) P) : Ends tb e below (T.setTop (mkF m pc ls (.int y :: .long x :: st))) P := by
  subst hp
  exact own_via (fun t_ k_ => XS.lushr h hx rfl hd rfl k_) hr
theorem s_idiv (h : At T m c below) (hx : tb.exec = Jvm.exec) {x y : Int32} (hd : decode c.code pc = .ok (.idiv, 1)) (hy : y ≠ 0) (hp : pc + 1 = pc') (hr : Ends tb e below (T.setTop (mkF m pc' ls (.int (x / y) :: st))) P) : Ends tb e below (T.setTop (mkF m pc ls (.int y :: .int x :: st))) P := by
  subst hp
  exact own_via (fun t_ k_ => XS.idiv h hx rfl hd rfl hy k_) hr
theorem s_ldiv (h : At T m c below) (hx : tb.exec = Jvm.exec) {x y : Int64} (hd : decode c.code pc = .ok (.ldiv, 1)) (hy : y ≠ 0) (hp : pc + 1 = pc') (hr : Ends tb e below (T.setTop (mkF m pc' ls (.long (x / y) :: st))) P) : Ends tb e below (T.setTop (mkF m pc ls (.long y :: .long x :: st))) P := by
  subst hp
  exact own_via (fun t_ k_ => XS.ldiv h hx rfl hd rfl hy k_) hr
theorem s_lrem (h : At T m c below) (hx : tb.exec = Jvm.exec) {x y : Int64} (hd : decode c.code pc = .ok (.lrem, 1)) (hy : y ≠ 0) (hp : pc + 1 = pc') (hr : Ends tb e below (T.setTop (mkF m pc' ls (.long (x % y) :: st))) P) : Ends tb e below (T.setTop (mkF m pc ls (.long y :: .long x :: st))) P := by
  subst hp
  exact own_via (fun t_ k_ => XS.lrem h hx rfl hd rfl hy (by rw [lrem_mod]; exact k_)) hr
theorem s_ineg (h : At T m c below) (hx : tb.exec = Jvm.exec) {x : Int32} (hd : decode c.code pc = .ok (.ineg, 1))  (hp : pc + 1 = pc') (hr : Ends tb e below (T.setTop (mkF m pc' ls (.int (-x) :: st))) P) : Ends tb e below (T.setTop (mkF m pc ls (.int x :: st))) P := by
  subst hp
  exact own_via (fun t_ k_ => XS.ineg h hx rfl hd rfl k_) hr
theorem s_lneg (h : At T m c below) (hx : tb.exec = Jvm.exec) {x : Int64} (hd : decode c.code pc = .ok (.lneg, 1))  (hp : pc + 1 = pc') (hr : Ends tb e below (T.setTop (mkF m pc' ls (.long (-x) :: st))) P) : Ends tb e below (T.setTop (mkF m pc ls (.long x :: st))) P := by
  subst hp
  exact own_via (fun t_ k_ => XS.lneg h hx rfl hd rfl k_) hr
theorem s_i2l (h : At T m c below) (hx : tb.exec = Jvm.exec) {x : Int32} (hd : decode c.code pc = .ok (.i2l, 1))  (hp : pc + 1 = pc') (hr : Ends tb e below (T.setTop (mkF m pc' ls (.long (x.toInt64) :: st))) P) : Ends tb e below (T.setTop (mkF m pc ls (.int x :: st))) P := by
  subst hp
  exact own_via (fun t_ k_ => XS.i2l h hx rfl hd rfl k_) hr
theorem s_l2i (h : At T m c below) (hx : tb.exec = Jvm.exec) {x : Int64} (hd : decode c.code pc = .ok (.l2i, 1))  (hp : pc + 1 = pc') (hr : Ends tb e below (T.setTop (mkF m pc' ls (.int (x.toInt32) :: st))) P) : Ends tb e below (T.setTop (mkF m pc ls (.long x :: st))) P := by
  subst hp
  exact own_via (fun t_ k_ => XS.l2i h hx rfl hd rfl k_) hr
theorem s_i2b (h : At T m c below) (hx : tb.exec = Jvm.exec) {x : Int32} (hd : decode c.code pc = .ok (.i2b, 1))  (hp : pc + 1 = pc') (hr : Ends tb e below (T.setTop (mkF m pc' ls (.int (x.toInt8.toInt32) :: st))) P) : Ends tb e below (T.setTop (mkF m pc ls (.int x :: st))) P := by
  subst hp
  exact own_via (fun t_ k_ => XS.i2b h hx rfl hd rfl k_) hr
theorem s_i2s (h : At T m c below) (hx : tb.exec = Jvm.exec) {x : Int32} (hd : decode c.code pc = .ok (.i2s, 1))  (hp : pc + 1 = pc') (hr : Ends tb e below (T.setTop (mkF m pc' ls (.int (x.toInt16.toInt32) :: st))) P) : Ends tb e below (T.setTop (mkF m pc ls (.int x :: st))) P := by
  subst hp
  exact own_via (fun t_ k_ => XS.i2s h hx rfl hd rfl k_) hr
theorem s_i2c (h : At T m c below) (hx : tb.exec = Jvm.exec) {x : Int32} (hd : decode c.code pc = .ok (.i2c, 1))  (hp : pc + 1 = pc') (hr : Ends tb e below (T.setTop (mkF m pc' ls (.int (x.toUInt32.toUInt16.toUInt32.toInt32) :: st))) P) : Ends tb e below (T.setTop (mkF m pc ls (.int x :: st))) P := by
  subst hp
  exact own_via (fun t_ k_ => XS.i2c h hx rfl hd rfl k_) hr
theorem s_lcmp (h : At T m c below) (hx : tb.exec = Jvm.exec) {x y : Int64} (hd : decode c.code pc = .ok (.lcmp, 1))  (hp : pc + 1 = pc') (hr : Ends tb e below (T.setTop (mkF m pc' ls (.int (lcmpW x y) :: st))) P) : Ends tb e below (T.setTop (mkF m pc ls (.long y :: .long x :: st))) P := by
  subst hp
  exact own_via (fun t_ k_ => XS.lcmp h hx rfl hd rfl k_) hr
theorem s_l2d (h : At T m c below) (hx : tb.exec = Jvm.exec) {x : Int64} (hd : decode c.code pc = .ok (.l2d, 1))  (hp : pc + 1 = pc') (hr : Ends tb e below (T.setTop (mkF m pc' ls (.double (FP.l2d x) :: st))) P) : Ends tb e below (T.setTop (mkF m pc ls (.long x :: st))) P := by
  subst hp
  exact own_via (fun t_ k_ => XS.l2dS h hx rfl hd rfl rfl k_) hr
theorem s_dneg (h : At T m c below) (hx : tb.exec = Jvm.exec) {x : UInt64} (hd : decode c.code pc = .ok (.dneg, 1))  (hp : pc + 1 = pc') (hr : Ends tb e below (T.setTop (mkF m pc' ls (.double (FP.dneg x) :: st))) P) : Ends tb e below (T.setTop (mkF m pc ls (.double x :: st))) P := by
  subst hp
  exact own_via (fun t_ k_ => XS.dnegS h hx rfl hd rfl rfl k_) hr
theorem s_dcmp (h : At T m c below) (hx : tb.exec = Jvm.exec) {o : CmpOp} {x y : UInt64} (hd : decode c.code pc = .ok (.dcmp o, 1))  (hp : pc + 1 = pc') (hr : Ends tb e below (T.setTop (mkF m pc' ls (.int (cmpValue (FP.dcmp x y) o) :: st))) P) : Ends tb e below (T.setTop (mkF m pc ls (.double y :: .double x :: st))) P := by
  subst hp
  exact own_via (fun t_ k_ => XS.dcmpS h hx rfl hd rfl rfl k_) hr
theorem s_iinc (h : At T m c below) (hx : tb.exec = Jvm.exec) {k : Nat} {i : Int} {x v : Int32} (hd : decode c.code pc = .ok (.iinc k i, 3)) (hv : Int32.ofInt i = v) (hl : ls[k]? = some (.val (.int x))) (hl' : storeLocals ls k (.int (x + v)) = some l') (hp : pc + 3 = pc') (hr : Ends tb e below (T.setTop (mkF m pc' l' st)) P) : Ends tb e below (T.setTop (mkF m pc ls st)) P := by
  subst hp hv
  exact own_via (fun t_ k_ => XS.iinc h hx rfl hd hl hl' k_) hr
theorem s_dup (h : At T m c below) (hx : tb.exec = Jvm.exec) {x : Value} (hd : decode c.code pc = .ok (.dup, 1)) (hc : x.category = 1) (hp : pc + 1 = pc') (hr : Ends tb e below (T.setTop (mkF m pc' ls (x :: x :: st))) P) : Ends tb e below (T.setTop (mkF m pc ls (x :: st))) P := by
  subst hp
  exact own_via (fun t_ k_ => XS.dup h hx rfl hd rfl hc k_) hr
theorem s_dupX1 (h : At T m c below) (hx : tb.exec = Jvm.exec) {x y : Value} (hd : decode c.code pc = .ok (.dup_x1, 1)) (hc : x.category = 1) (hc' : y.category = 1) (hp : pc + 1 = pc') (hr : Ends tb e below (T.setTop (mkF m pc' ls (x :: y :: x :: st))) P) : Ends tb e below (T.setTop (mkF m pc ls (x :: y :: st))) P := by
  subst hp
  exact own_via (fun t_ k_ => XS.dupX1 h hx rfl hd rfl hc hc' k_) hr
theorem s_dup2 (h : At T m c below) (hx : tb.exec = Jvm.exec) {x y : Value} (hd : decode c.code pc = .ok (.dup2, 1)) (hc : x.category = 1) (hc' : y.category = 1) (hp : pc + 1 = pc') (hr : Ends tb e below (T.setTop (mkF m pc' ls (x :: y :: x :: y :: st))) P) : Ends tb e below (T.setTop (mkF m pc ls (x :: y :: st))) P := by
  subst hp
  exact own_via (fun t_ k_ => XT.dup2 h hx rfl hd rfl hc hc' k_) hr
theorem s_dup2L (h : At T m c below) (hx : tb.exec = Jvm.exec) {x : Int64} (hd : decode c.code pc = .ok (.dup2, 1))  (hp : pc + 1 = pc') (hr : Ends tb e below (T.setTop (mkF m pc' ls (.long x :: .long x :: st))) P) : Ends tb e below (T.setTop (mkF m pc ls (.long x :: st))) P := by
  subst hp
  exact own_via (fun t_ k_ => XT.dup2L h hx rfl hd rfl k_) hr
theorem s_pop (h : At T m c below) (hx : tb.exec = Jvm.exec) {x : Value} (hd : decode c.code pc = .ok (.pop, 1)) (hc : x.category = 1) (hp : pc + 1 = pc') (hr : Ends tb e below (T.setTop (mkF m pc' ls st)) P) : Ends tb e below (T.setTop (mkF m pc ls (x :: st))) P := by
  subst hp
  exact own_via (fun t_ k_ => XS.pop h hx rfl hd rfl hc k_) hr
theorem own_pop2L {target : State} {g : JFrame} (h : At T m c below) (hx : tb.exec = Jvm.exec) (hg : g.method = m) {x : Int64} {rest : List Value} (hd : decode c.code g.pc = .ok (.pop2, 1)) (hs : g.stack = .long x :: rest)
    (hr : Steps tb e below (T.setTop { g with pc := g.pc + 1, stack := rest }) target) : Steps tb e below (T.setTop g) target := by
  subst hg
  jvm_step h [h.top, hx, hd, hs, Value.category]
  exact hr
theorem s_pop2L (h : At T m c below) (hx : tb.exec = Jvm.exec) {x : Int64} (hd : decode c.code pc = .ok (.pop2, 1))  (hp : pc + 1 = pc') (hr : Ends tb e below (T.setTop (mkF m pc' ls st)) P) : Ends tb e below (T.setTop (mkF m pc ls (.long x :: st))) P := by
  subst hp
  exact own_via (fun t_ k_ => own_pop2L h hx rfl hd rfl k_) hr
theorem s_goto (h : At T m c below) (hx : tb.exec = Jvm.exec)  {o : Int} (hd : decode c.code pc = .ok (.goto o, 3))  (ho : 0 ≤ (pc : Int) + o) (hp : ((pc : Int) + o).toNat = pc') (hr : Ends tb e below (T.setTop (mkF m pc' ls st)) P) : Ends tb e below (T.setTop (mkF m pc ls st)) P := own_via (fun t_ k_ => XS.goto h hx rfl rfl hd ho hp k_) hr
theorem s_ifYes (h : At T m c below) (hx : tb.exec = Jvm.exec) {cd : ClassFile.Cond} {x : Int32} {o : Int} (hd : decode c.code pc = .ok (.ifCond cd o, 3)) (hc : ifCond.holds cd x = true) (ho : 0 ≤ (pc : Int) + o) (hp : ((pc : Int) + o).toNat = pc') (hr : Ends tb e below (T.setTop (mkF m pc' ls st)) P) : Ends tb e below (T.setTop (mkF m pc ls (.int x :: st))) P := own_via (fun t_ k_ => XS.ifYes h hx rfl rfl hd rfl hc ho hp k_) hr
theorem s_ifNo (h : At T m c below) (hx : tb.exec = Jvm.exec) {cd : ClassFile.Cond} {x : Int32} {o : Int} (hd : decode c.code pc = .ok (.ifCond cd o, 3)) (hc : ifCond.holds cd x = false) (hp : pc + 3 = pc') (hr : Ends tb e below (T.setTop (mkF m pc' ls st)) P) : Ends tb e below (T.setTop (mkF m pc ls (.int x :: st))) P := by
  subst hp
  exact own_via (fun t_ k_ => XS.ifNo h hx rfl hd rfl hc k_) hr
theorem s_icmpYes (h : At T m c below) (hx : tb.exec = Jvm.exec) {cd : ClassFile.Cond} {x y : Int32} {o : Int} (hd : decode c.code pc = .ok (.if_icmp cd o, 3)) (hc : if_icmp.holds cd x y = true) (ho : 0 ≤ (pc : Int) + o) (hp : ((pc : Int) + o).toNat = pc') (hr : Ends tb e below (T.setTop (mkF m pc' ls st)) P) : Ends tb e below (T.setTop (mkF m pc ls (.int y :: .int x :: st))) P := own_via (fun t_ k_ => XS.icmpYes h hx rfl rfl hd rfl hc ho hp k_) hr
theorem s_icmpNo (h : At T m c below) (hx : tb.exec = Jvm.exec) {cd : ClassFile.Cond} {x y : Int32} {o : Int} (hd : decode c.code pc = .ok (.if_icmp cd o, 3)) (hc : if_icmp.holds cd x y = false) (hp : pc + 3 = pc') (hr : Ends tb e below (T.setTop (mkF m pc' ls st)) P) : Ends tb e below (T.setTop (mkF m pc ls (.int y :: .int x :: st))) P := by
  subst hp
  exact own_via (fun t_ k_ => XS.icmpNo h hx rfl hd rfl hc k_) hr
theorem s_ifnullYes (h : At T m c below) (hx : tb.exec = Jvm.exec)  {o : Int} (hd : decode c.code pc = .ok (.ifnull o, 3))  (ho : 0 ≤ (pc : Int) + o) (hp : ((pc : Int) + o).toNat = pc') (hr : Ends tb e below (T.setTop (mkF m pc' ls st)) P) : Ends tb e below (T.setTop (mkF m pc ls (.null :: st))) P := own_via (fun t_ k_ => XS.ifnullYes h hx rfl rfl hd rfl ho hp k_) hr
theorem s_ifnullNo (h : At T m c below) (hx : tb.exec = Jvm.exec) {b : Addr} {o : Int} (hd : decode c.code pc = .ok (.ifnull o, 3))  (hp : pc + 3 = pc') (hr : Ends tb e below (T.setTop (mkF m pc' ls st)) P) : Ends tb e below (T.setTop (mkF m pc ls (.ref b :: st))) P := by
  subst hp
  exact own_via (fun t_ k_ => XS.ifnullNo h hx rfl hd rfl k_) hr
theorem s_ifnonnullYes (h : At T m c below) (hx : tb.exec = Jvm.exec) {b : Addr} {o : Int} (hd : decode c.code pc = .ok (.ifnonnull o, 3))  (ho : 0 ≤ (pc : Int) + o) (hp : ((pc : Int) + o).toNat = pc') (hr : Ends tb e below (T.setTop (mkF m pc' ls st)) P) : Ends tb e below (T.setTop (mkF m pc ls (.ref b :: st))) P := own_via (fun t_ k_ => XS.ifnonnullYes h hx rfl rfl hd rfl ho hp k_) hr
theorem s_ifnonnullNo (h : At T m c below) (hx : tb.exec = Jvm.exec)  {o : Int} (hd : decode c.code pc = .ok (.ifnonnull o, 3))  (hp : pc + 3 = pc') (hr : Ends tb e below (T.setTop (mkF m pc' ls st)) P) : Ends tb e below (T.setTop (mkF m pc ls (.null :: st))) P := by
  subst hp
  exact own_via (fun t_ k_ => XS.ifnonnullNo h hx rfl hd rfl k_) hr
theorem s_tswIn (h : At T m c below) (hx : tb.exec = Jvm.exec) {dflt low high : Int} {offs : Array Int} {len : Nat} {o : Int} {i : Int32} (hd : decode c.code pc = .ok (.tableswitch dflt low high offs, len)) (hin : ¬ (i.toInt < low ∨ i.toInt > high)) (hoff : offs[(i.toInt - low).toNat]? = some o) (ho : 0 ≤ (pc : Int) + o) (hp : ((pc : Int) + o).toNat = pc') (hr : Ends tb e below (T.setTop (mkF m pc' ls st)) P) : Ends tb e below (T.setTop (mkF m pc ls (.int i :: st))) P := own_via (fun t_ k_ => XS.tswIn h hx rfl rfl hd rfl hin hoff ho hp k_) hr
theorem s_tswOut (h : At T m c below) (hx : tb.exec = Jvm.exec) {dflt low high : Int} {offs : Array Int} {len : Nat} {i : Int32} (hd : decode c.code pc = .ok (.tableswitch dflt low high offs, len)) (hout : i.toInt < low ∨ i.toInt > high) (ho : 0 ≤ (pc : Int) + dflt) (hp : ((pc : Int) + dflt).toNat = pc') (hr : Ends tb e below (T.setTop (mkF m pc' ls st)) P) : Ends tb e below (T.setTop (mkF m pc ls (.int i :: st))) P := own_via (fun t_ k_ => XS.tswOut h hx rfl rfl hd rfl hout ho hp k_) hr
end OwnSteps
section OwnLaws
variable {p : Program} {l : Launch} {e : Env} {R : Room} {s : State} {m : MethodId} {args : Array Value} {below : List Frame} {meth : Method} {c : Code} {T : State} {locs : List Loc} {cells slots : Nat} {Z : State} {a0 : Array Value} {h : Heap} {P : State → Outcome → Prop} {pc pc' : Nat} {ls : Array Slot} {st : List Value}
theorem s_getF (X : Stand p l e R s m args below meth c T locs cells slots) (hx : p.tables.exec = Jvm.exec) (hZ : Z.Warmed39 s.vm) {own R0 O n d host : String} {index : Nat} (hown : s.vm.findClass own = some m.cls) (w : (Jvm.Cond.fieldLink own index R0 n d).before a0 Z = true ∨ (Jvm.Cond.fieldLinkNest own index R0 n d host).before a0 Z = true) (via : Via Z R0 O n d) (eT : T.heap = h) {a : Addr} {v : Value} (F : Fld Z h a O n d v) (hd : decode c.code pc = .ok (.getfield index, 3)) (hp : pc + 3 = pc') (k : ∀ T', Stand p l e R s m args below meth c T' locs cells slots → T'.heap = h → Ends p.tables e below (T'.setTop (mkF m pc' ls (v :: st))) P) : Ends p.tables e below (T.setTop (mkF m pc ls (.ref a :: st))) P := by
  subst hp
  obtain ⟨T', X', e', s'⟩ := getF X hx hZ hown w via eT F (g := mkF m pc ls (.ref a :: st)) rfl rfl hd
  exact own_via s' (k T' X' e')
theorem s_getS (X : Stand p l e R s m args below meth c T locs cells slots) (hx : p.tables.exec = Jvm.exec) (hZ : Z.Warmed39 s.vm) {own R0 O n d host : String} {index : Nat} (hown : s.vm.findClass own = some m.cls) (w : (Jvm.Cond.fieldLink own index R0 n d).before a0 Z = true ∨ (Jvm.Cond.fieldLinkNest own index R0 n d host).before a0 Z = true) (via : Via Z R0 O n d) (eT : T.heap = h) {v : Value} (F : Sta Z h O n d v) (hd : decode c.code pc = .ok (.getstatic index, 3)) (hp : pc + 3 = pc') (k : ∀ T', Stand p l e R s m args below meth c T' locs cells slots → T'.heap = h → Ends p.tables e below (T'.setTop (mkF m pc' ls (v :: st))) P) : Ends p.tables e below (T.setTop (mkF m pc ls st)) P := by
  subst hp
  obtain ⟨T', X', e', s'⟩ := getS2 X hx hZ hown w via eT F (g := mkF m pc ls st) rfl hd
  exact own_via s' (k T' X' e')
theorem s_putF (X : Stand p l e R s m args below meth c T locs cells slots) (hx : p.tables.exec = Jvm.exec) (hZ : Z.Warmed39 s.vm) {own R0 O n d host : String} {index : Nat} (hown : s.vm.findClass own = some m.cls) (w : (Jvm.Cond.fieldLink own index R0 n d).before a0 Z = true ∨ (Jvm.Cond.fieldLinkNest own index R0 n d host).before a0 Z = true) (via : Via Z R0 O n d) (eT : T.heap = h) {C : String} {kk : Nat} {ty : FieldType} {a : Addr} {v old : Value} (F : Fld Z h a O n d old) (E : Exa Z h a C) (L : (Jvm.Cond.lays C O n d).before a0 Z = true ∨ ((Jvm.Cond.laysFinal C O n d).before a0 Z = true ∧ own = O ∧ meth.name = "<init>")) (wi : (Jvm.Cond.instantiable C kk).before a0 Z = true) (hty : parseFieldDescriptor d = some ty) (hn : narrow ty v = v) (hf : fits ty v = true) (hd : decode c.code pc = .ok (.putfield index, 3)) (hp : pc + 3 = pc') (k : ∀ T' h', Stand p l e R s m args below meth c T' (locs ++ [⟨a, Jvm.RoadKit.slotOf Z O n d⟩]) cells slots → T'.heap = h' → Wr h h' a (Jvm.RoadKit.slotOf Z O n d) v → Ends p.tables e below (T'.setTop (mkF m pc' ls st)) P) : Ends p.tables e below (T.setTop (mkF m pc ls (v :: .ref a :: st))) P := by
  subst hp
  obtain ⟨T', h', X', e', W, s'⟩ := putF X hx hZ hown w via eT F E L wi hty hn hf (g := mkF m pc ls (v :: .ref a :: st)) rfl rfl hd
  exact own_via s' (k T' h' X' e' W)
theorem s_putFN (X : Stand p l e R s m args below meth c T locs cells slots) (hx : p.tables.exec = Jvm.exec) (hZ : Z.Warmed39 s.vm) {own R0 O n d : String} {index : Nat} (hown : s.vm.findClass own = some m.cls) (w : (Jvm.Cond.fieldLink own index R0 n d).before a0 Z = true) (via : Via Z R0 O n d) (eT : T.heap = h) {C : String} {kk : Nat} {ty : FieldType} {a : Addr} {v v' old : Value} (F : Fld Z h a O n d old) (E : Exa Z h a C) (L : (Jvm.Cond.lays C O n d).before a0 Z = true ∨ ((Jvm.Cond.laysFinal C O n d).before a0 Z = true ∧ own = O ∧ meth.name = "<init>")) (wi : (Jvm.Cond.instantiable C kk).before a0 Z = true) (hty : parseFieldDescriptor d = some ty) (hn : narrow ty v = v') (hf : fits ty v' = true) (hd : decode c.code pc = .ok (.putfield index, 3)) (hp : pc + 3 = pc') (k : ∀ T' h', Stand p l e R s m args below meth c T' (locs ++ [⟨a, Jvm.RoadKit.slotOf Z O n d⟩]) cells slots → T'.heap = h' → Wr h h' a (Jvm.RoadKit.slotOf Z O n d) v' → Ends p.tables e below (T'.setTop (mkF m pc' ls st)) P) : Ends p.tables e below (T.setTop (mkF m pc ls (v :: .ref a :: st))) P := by
  subst hp
  obtain ⟨T', h', X', e', W, s'⟩ := putFN X hx hZ hown w via eT F E L wi hty hn hf (g := mkF m pc ls (v :: .ref a :: st)) rfl rfl hd
  exact own_via s' (k T' h' X' e' W)
theorem s_newO (X : Stand p l e R s m args below meth c T locs cells slots) (hx : p.tables.exec = Jvm.exec) (hZ : Z.Warmed39 s.vm) {own C : String} {index n : Nat} (hown : s.vm.findClass own = some m.cls) (w : (Jvm.Cond.classLink own index C).before a0 Z = true) (wi : (Jvm.Cond.instantiable C n).before a0 Z = true) (wz : (Jvm.Cond.initialized C).before a0 Z = true) (eT : T.heap = h) (hd : decode c.code pc = .ok (.new index, 3)) (hc : cells + 1 ≤ R.cells) (hl : slots + n ≤ R.slots) (hp : pc + 3 = pc') (k : ∀ T' h', Stand p l e R s m args below meth c T' locs (cells + 1) (slots + n) → T'.heap = h' → Ext h h' → ∀ b, b = h.size → Exa Z h' b C → (∀ {O nm d : String} {ty : FieldType}, Laid Z a0 C O nm d → parseFieldDescriptor d = some ty → Fld Z h' b O nm d (defaultValue ty)) → Ends p.tables e below (T'.setTop (mkF m pc' ls (.ref b :: st))) P) : Ends p.tables e below (T.setTop (mkF m pc ls st)) P := by
  subst hp
  obtain ⟨T', h', X', e', E, A, D, -, s'⟩ := newO X hx hZ hown w wi wz eT (g := mkF m pc ls st) rfl hd hc hl
  exact own_via s' (k T' h' X' e' E _ rfl A D)
theorem s_newP (X : Stand p l e R s m args below meth c T locs cells slots) (hx : p.tables.exec = Jvm.exec) (hZ : Z.Warmed39 s.vm) {aty : ArrayType} (w : (Jvm.Cond.arrayClass (newarray.typeOf aty)).before a0 Z = true) (eT : T.heap = h) (hd : decode c.code pc = .ok (.newarray aty, 2)) {n : Int32} (hn : ¬ n < 0) {cap : Nat} (hcap : n.toNatClampNeg ≤ cap) (hb : cap * 8 ≤ 536870912) (hc : cells + 1 ≤ R.cells) (hl : slots + cap ≤ R.slots) (hp : pc + 2 = pc') (k : ∀ T' h', Stand p l e R s m args below meth c T' locs (cells + 1) (slots + cap) → T'.heap = h' → ∀ cA, Ext h h' → ∀ b, b = h.size → Arr Z h' b (newA cA (newarray.typeOf aty) n) (newarray.typeOf aty) → Ends p.tables e below (T'.setTop (mkF m pc' ls (.ref b :: st))) P) : Ends p.tables e below (T.setTop (mkF m pc ls (.int n :: st))) P := by
  subst hp
  obtain ⟨T', h', cA, X', e', E, A, s'⟩ := newP X hx hZ w eT (g := mkF m pc ls (.int n :: st)) rfl hd rfl hn hcap hb hc hl
  exact own_via s' (k T' h' X' e' cA E _ rfl A)
theorem s_newPE (X : Stand p l e R s m args below meth c T locs cells slots) (hx : p.tables.exec = Jvm.exec) (hZ : Z.Warmed39 s.vm) {aty : ArrayType} (w : (Jvm.Cond.arrayClass (newarray.typeOf aty)).before a0 Z = true) (eT : T.heap = h) (hd : decode c.code pc = .ok (.newarray aty, 2)) {n : Int32} (hn : ¬ n < 0) {cap : Nat} (hcap : n.toNatClampNeg ≤ cap) (hb : cap * 8 ≤ 536870912) (hc : cells + 1 ≤ R.cells) (hl : slots + cap ≤ R.slots) {ad : String} (had : "[" ++ (newarray.typeOf aty).toString = ad) (hp : pc + 2 = pc') (k : ∀ T' h', Stand p l e R s m args below meth c T' locs (cells + 1) (slots + cap) → T'.heap = h' → ∀ cA, Ext h h' → ∀ b, b = h.size → Arr Z h' b (newA cA (newarray.typeOf aty) n) (newarray.typeOf aty) → Exa Z h' b ad → Ends p.tables e below (T'.setTop (mkF m pc' ls (.ref b :: st))) P) : Ends p.tables e below (T.setTop (mkF m pc ls (.int n :: st))) P := by
  subst hp
  obtain ⟨T', h', cA, X', e', E, A, Ex, s'⟩ := newPE X hx hZ w eT (g := mkF m pc ls (.int n :: st)) rfl hd rfl hn hcap hb hc hl had
  exact own_via s' (k T' h' X' e' cA E _ rfl A Ex)
theorem s_newR (X : Stand p l e R s m args below meth c T locs cells slots) (hx : p.tables.exec = Jvm.exec) (hZ : Z.Warmed39 s.vm) {own C : String} {index : Nat} (hown : s.vm.findClass own = some m.cls) (w1 : (Jvm.Cond.classLink own index C).before a0 Z = true) (w2 : (Jvm.Cond.arrayOver (.object C)).before a0 Z = true) (eT : T.heap = h) (hd : decode c.code pc = .ok (.anewarray index, 3)) {n : Int32} (hn : ¬ n < 0) {cap : Nat} (hcap : n.toNatClampNeg ≤ cap) (hb : cap * 8 ≤ 536870912) (hc : cells + 1 ≤ R.cells) (hl : slots + cap ≤ R.slots) (hp : pc + 3 = pc') (k : ∀ T' h', Stand p l e R s m args below meth c T' locs (cells + 1) (slots + cap) → T'.heap = h' → ∀ cA, Ext h h' → ∀ b, b = h.size → Arr Z h' b (newA cA (.object C) n) (.object C) → Ends p.tables e below (T'.setTop (mkF m pc' ls (.ref b :: st))) P) : Ends p.tables e below (T.setTop (mkF m pc ls (.int n :: st))) P := by
  subst hp
  obtain ⟨T', h', cA, X', e', E, A, -, s'⟩ := newR X hx hZ hown w1 w2 eT (g := mkF m pc ls (.int n :: st)) rfl hd rfl hn hcap hb hc hl
  exact own_via s' (k T' h' X' e' cA E _ rfl A)
theorem s_stI (X : Stand p l e R s m args below meth c T locs cells slots) (hx : p.tables.exec = Jvm.exec) (hZ : Z.Warmed39 s.vm) (eT : T.heap = h) {a : Addr} {cl : Cell} (A : Arr Z h a cl .int) {j : Int32} {x : Int32} (hj : ¬ (j < 0 ∨ cl.slots.size ≤ j.toNatClampNeg)) (hd : decode c.code pc = .ok (.iastore, 1)) (hp : pc + 1 = pc') (k : ∀ T' h', Stand p l e R s m args below meth c T' (locs ++ [⟨a, j.toNatClampNeg⟩]) cells slots → T'.heap = h' → Wr h h' a j.toNatClampNeg (.int x) → Ends p.tables e below (T'.setTop (mkF m pc' ls st)) P) : Ends p.tables e below (T.setTop (mkF m pc ls (.int x :: .int j :: .ref a :: st))) P := by
  subst hp
  obtain ⟨T', h', X', e', W, s'⟩ := stI X hx hZ eT A (j := j) hj (g := mkF m pc ls (.int x :: .int j :: .ref a :: st)) rfl rfl hd
  exact own_via s' (k T' h' X' e' W)
theorem s_stJ (X : Stand p l e R s m args below meth c T locs cells slots) (hx : p.tables.exec = Jvm.exec) (hZ : Z.Warmed39 s.vm) (eT : T.heap = h) {a : Addr} {cl : Cell} (A : Arr Z h a cl .long) {j : Int32} {x : Int64} (hj : ¬ (j < 0 ∨ cl.slots.size ≤ j.toNatClampNeg)) (hd : decode c.code pc = .ok (.lastore, 1)) (hp : pc + 1 = pc') (k : ∀ T' h', Stand p l e R s m args below meth c T' (locs ++ [⟨a, j.toNatClampNeg⟩]) cells slots → T'.heap = h' → Wr h h' a j.toNatClampNeg (.long x) → Ends p.tables e below (T'.setTop (mkF m pc' ls st)) P) : Ends p.tables e below (T.setTop (mkF m pc ls (.long x :: .int j :: .ref a :: st))) P := by
  subst hp
  obtain ⟨T', h', X', e', W, s'⟩ := stJ X hx hZ eT A (j := j) hj (g := mkF m pc ls (.long x :: .int j :: .ref a :: st)) rfl rfl hd
  exact own_via s' (k T' h' X' e' W)
theorem s_stC (X : Stand p l e R s m args below meth c T locs cells slots) (hx : p.tables.exec = Jvm.exec) (hZ : Z.Warmed39 s.vm) (eT : T.heap = h) {a : Addr} {cl : Cell} (A : Arr Z h a cl .char) {j : Int32} {x : Int32} (hj : ¬ (j < 0 ∨ cl.slots.size ≤ j.toNatClampNeg)) (hd : decode c.code pc = .ok (.castore, 1)) (hp : pc + 1 = pc') (k : ∀ T' h', Stand p l e R s m args below meth c T' (locs ++ [⟨a, j.toNatClampNeg⟩]) cells slots → T'.heap = h' → Wr h h' a j.toNatClampNeg (.int (nar .char x)) → Ends p.tables e below (T'.setTop (mkF m pc' ls st)) P) : Ends p.tables e below (T.setTop (mkF m pc ls (.int x :: .int j :: .ref a :: st))) P := by
  subst hp
  obtain ⟨T', h', X', e', W, s'⟩ := stC X hx hZ eT A (j := j) hj (g := mkF m pc ls (.int x :: .int j :: .ref a :: st)) rfl rfl hd
  exact own_via s' (k T' h' X' e' W)
theorem s_stB (X : Stand p l e R s m args below meth c T locs cells slots) (hx : p.tables.exec = Jvm.exec) (hZ : Z.Warmed39 s.vm) (eT : T.heap = h) {a : Addr} {cl : Cell} (A : Arr Z h a cl .byte) {j : Int32} {x : Int32} (hj : ¬ (j < 0 ∨ cl.slots.size ≤ j.toNatClampNeg)) (hd : decode c.code pc = .ok (.bastore, 1)) (hp : pc + 1 = pc') (k : ∀ T' h', Stand p l e R s m args below meth c T' (locs ++ [⟨a, j.toNatClampNeg⟩]) cells slots → T'.heap = h' → Wr h h' a j.toNatClampNeg (.int (nar .byte x)) → Ends p.tables e below (T'.setTop (mkF m pc' ls st)) P) : Ends p.tables e below (T.setTop (mkF m pc ls (.int x :: .int j :: .ref a :: st))) P := by
  subst hp
  obtain ⟨T', h', X', e', W, s'⟩ := stB X hx hZ eT A (j := j) hj (g := mkF m pc ls (.int x :: .int j :: .ref a :: st)) rfl rfl hd
  exact own_via s' (k T' h' X' e' W)
theorem s_stN (X : Stand p l e R s m args below meth c T locs cells slots) (hx : p.tables.exec = Jvm.exec) (hZ : Z.Warmed39 s.vm) (eT : T.heap = h) {a : Addr} {cl : Cell} {ty : FieldType} (A : Arr Z h a cl ty) (hr : ty.isReference = true) {j : Int32} (hj : ¬ (j < 0 ∨ cl.slots.size ≤ j.toNatClampNeg)) (hd : decode c.code pc = .ok (.aastore, 1)) (hp : pc + 1 = pc') (k : ∀ T' h', Stand p l e R s m args below meth c T' (locs ++ [⟨a, j.toNatClampNeg⟩]) cells slots → T'.heap = h' → Wr h h' a j.toNatClampNeg .null → Ends p.tables e below (T'.setTop (mkF m pc' ls st)) P) : Ends p.tables e below (T.setTop (mkF m pc ls (.null :: .int j :: .ref a :: st))) P := by
  subst hp
  obtain ⟨T', h', X', e', W, s'⟩ := stR X hx hZ eT A (j := j) hj hr (Or.inl rfl) (g := mkF m pc ls (.null :: .int j :: .ref a :: st)) rfl rfl hd
  exact own_via s' (k T' h' X' e' W)
theorem s_iaload (X : Stand p l e R s m args below meth c T locs cells slots) (hx : p.tables.exec = Jvm.exec) (hZ : Z.Warmed39 s.vm) (eT : T.heap = h) {a : Addr} {k : ClassId} {z : Int32} {vs : List Value} {dv v : Value} {j : Int32} (F : Arv Z h a k .int z vs dv) (hj : ¬ j < 0 ∧ j < z) (hv : vs.getD j.toNatClampNeg dv = v) (hd : decode c.code pc = .ok (.iaload, 1)) (hp : pc + 1 = pc') (hr : Ends p.tables e below (T.setTop (mkF m pc' ls (v :: st))) P) : Ends p.tables e below (T.setTop (mkF m pc ls (.int j :: .ref a :: st))) P := by
  subst hp
  obtain ⟨cl, A, -, S, M, H, -⟩ := F
  have hin := inb_of S hj
  exact own_via (X.iaload hx (j := j) (v := v) (by rw [eT]; exact A.1) (State.isArrayOf_alike hZ.alike A.2.1) A.2.2 hin (H.at hin hv) (g := mkF m pc ls (.int j :: .ref a :: st)) rfl rfl hd) hr
theorem s_laload (X : Stand p l e R s m args below meth c T locs cells slots) (hx : p.tables.exec = Jvm.exec) (hZ : Z.Warmed39 s.vm) (eT : T.heap = h) {a : Addr} {k : ClassId} {z : Int32} {vs : List Value} {dv v : Value} {j : Int32} (F : Arv Z h a k .long z vs dv) (hj : ¬ j < 0 ∧ j < z) (hv : vs.getD j.toNatClampNeg dv = v) (hd : decode c.code pc = .ok (.laload, 1)) (hp : pc + 1 = pc') (hr : Ends p.tables e below (T.setTop (mkF m pc' ls (v :: st))) P) : Ends p.tables e below (T.setTop (mkF m pc ls (.int j :: .ref a :: st))) P := by
  subst hp
  obtain ⟨cl, A, -, S, M, H, -⟩ := F
  have hin := inb_of S hj
  exact own_via (X.laload hx (j := j) (v := v) (by rw [eT]; exact A.1) (State.isArrayOf_alike hZ.alike A.2.1) A.2.2 hin (H.at hin hv) (g := mkF m pc ls (.int j :: .ref a :: st)) rfl rfl hd) hr
theorem s_caload (X : Stand p l e R s m args below meth c T locs cells slots) (hx : p.tables.exec = Jvm.exec) (hZ : Z.Warmed39 s.vm) (eT : T.heap = h) {a : Addr} {k : ClassId} {z : Int32} {vs : List Value} {dv v : Value} {j : Int32} (F : Arv Z h a k .char z vs dv) (hj : ¬ j < 0 ∧ j < z) (hv : vs.getD j.toNatClampNeg dv = v) (hd : decode c.code pc = .ok (.caload, 1)) (hp : pc + 1 = pc') (hr : Ends p.tables e below (T.setTop (mkF m pc' ls (v :: st))) P) : Ends p.tables e below (T.setTop (mkF m pc ls (.int j :: .ref a :: st))) P := by
  subst hp
  obtain ⟨cl, A, -, S, M, H, -⟩ := F
  have hin := inb_of S hj
  exact own_via (X.caload hx (j := j) (v := v) (by rw [eT]; exact A.1) (State.isArrayOf_alike hZ.alike A.2.1) A.2.2 hin (H.at hin hv) (g := mkF m pc ls (.int j :: .ref a :: st)) rfl rfl hd) hr
theorem s_baload (X : Stand p l e R s m args below meth c T locs cells slots) (hx : p.tables.exec = Jvm.exec) (hZ : Z.Warmed39 s.vm) (eT : T.heap = h) {a : Addr} {k : ClassId} {z : Int32} {vs : List Value} {dv v : Value} {j : Int32} (F : Arv Z h a k .byte z vs dv) (hj : ¬ j < 0 ∧ j < z) (hv : vs.getD j.toNatClampNeg dv = v) (hd : decode c.code pc = .ok (.baload, 1)) (hp : pc + 1 = pc') (hr : Ends p.tables e below (T.setTop (mkF m pc' ls (v :: st))) P) : Ends p.tables e below (T.setTop (mkF m pc ls (.int j :: .ref a :: st))) P := by
  subst hp
  obtain ⟨cl, A, -, S, M, H, -⟩ := F
  have hin := inb_of S hj
  exact own_via (X.baloadBytes hx (j := j) (v := v) (by rw [eT]; exact A.1) (State.isArrayOf_alike hZ.alike A.2.1) A.2.2 hin (H.at hin hv) (g := mkF m pc ls (.int j :: .ref a :: st)) rfl rfl hd) hr
theorem s_arraylength (X : Stand p l e R s m args below meth c T locs cells slots) (hx : p.tables.exec = Jvm.exec) (hZ : Z.Warmed39 s.vm) (eT : T.heap = h) {a : Addr} {k : ClassId} {ty : FieldType} {z : Int32} {vs : List Value} {dv : Value} (F : Arv Z h a k ty z vs dv) (hd : decode c.code pc = .ok (.arraylength, 1)) (hp : pc + 1 = pc') (hr : Ends p.tables e below (T.setTop (mkF m pc' ls (.int z :: st))) P) : Ends p.tables e below (T.setTop (mkF m pc ls (.ref a :: st))) P := by
  subst hp
  obtain ⟨cl, A, -, S, M, H, -⟩ := F
  refine own_via (X.arraylength hx (by rw [eT]; exact A.1) (State.isArrayOf_alike hZ.alike A.2.1) (g := mkF m pc ls (.ref a :: st)) rfl rfl hd) ?_
  rw [len_of S M]
  exact hr
theorem own_set {a : Addr} {k : ClassId} {ty : FieldType} {z : Int32} {vs : List Value} {dv v : Value} {j : Int32} {cl : Cell} {h' : Heap} (F : ∃ c : Cell, c = cl ∧ Arr Z h a c ty ∧ c.cls = k ∧ c.slots.size = z.toNatClampNeg ∧ ¬ z < 0 ∧ Has c vs dv ∧ ∀ i, i < c.slots.size → fits ty (vs.getD i dv) = true) (hv : fits ty v = true) (W : Wr h h' a j.toNatClampNeg v) (i : Nat) (hj : j.toNatClampNeg = i) (hi : i < vs.length) : Arv Z h' a k ty z (vs.set i v) dv := by
  obtain ⟨c, rfl, A, q1, S, M, H, G⟩ := F
  exact Arv.set A q1 S M H G hv W i hj hi
theorem s_putI (X : Stand p l e R s m args below meth c T locs cells slots) (hx : p.tables.exec = Jvm.exec) (hZ : Z.Warmed39 s.vm) (eT : T.heap = h) {a : Addr} {k : ClassId} {z : Int32} {vs : List Value} {dv : Value} {j : Int32} {x : Int32} (F : Arv Z h a k .int z vs dv) (hj : ¬ j < 0 ∧ j < z) (i : Nat) (hi : j.toNatClampNeg = i) (hl : i < vs.length) (hd : decode c.code pc = .ok (.iastore, 1)) (hp : pc + 1 = pc') (kk : ∀ T' h', Stand p l e R s m args below meth c T' (locs ++ [⟨a, j.toNatClampNeg⟩]) cells slots → T'.heap = h' → Wr h h' a j.toNatClampNeg (.int x) → Arv Z h' a k .int z (vs.set i (.int x)) dv → Ends p.tables e below (T'.setTop (mkF m pc' ls st)) P) : Ends p.tables e below (T.setTop (mkF m pc ls (.int x :: .int j :: .ref a :: st))) P := by
  obtain ⟨cl, A, q1, S, M, H, G⟩ := F
  exact s_stI X hx hZ eT A (inb_of S hj) hd hp fun T' h' X' e' W => kk T' h' X' e' W (Arv.set A q1 S M H G rfl W i hi hl)
theorem s_putJ (X : Stand p l e R s m args below meth c T locs cells slots) (hx : p.tables.exec = Jvm.exec) (hZ : Z.Warmed39 s.vm) (eT : T.heap = h) {a : Addr} {k : ClassId} {z : Int32} {vs : List Value} {dv : Value} {j : Int32} {x : Int64} (F : Arv Z h a k .long z vs dv) (hj : ¬ j < 0 ∧ j < z) (i : Nat) (hi : j.toNatClampNeg = i) (hl : i < vs.length) (hd : decode c.code pc = .ok (.lastore, 1)) (hp : pc + 1 = pc') (kk : ∀ T' h', Stand p l e R s m args below meth c T' (locs ++ [⟨a, j.toNatClampNeg⟩]) cells slots → T'.heap = h' → Wr h h' a j.toNatClampNeg (.long x) → Arv Z h' a k .long z (vs.set i (.long x)) dv → Ends p.tables e below (T'.setTop (mkF m pc' ls st)) P) : Ends p.tables e below (T.setTop (mkF m pc ls (.long x :: .int j :: .ref a :: st))) P := by
  obtain ⟨cl, A, q1, S, M, H, G⟩ := F
  exact s_stJ X hx hZ eT A (inb_of S hj) hd hp fun T' h' X' e' W => kk T' h' X' e' W (Arv.set A q1 S M H G rfl W i hi hl)
theorem s_putC (X : Stand p l e R s m args below meth c T locs cells slots) (hx : p.tables.exec = Jvm.exec) (hZ : Z.Warmed39 s.vm) (eT : T.heap = h) {a : Addr} {k : ClassId} {z : Int32} {vs : List Value} {dv : Value} {j : Int32} {x : Int32} (F : Arv Z h a k .char z vs dv) (hj : ¬ j < 0 ∧ j < z) (i : Nat) (hi : j.toNatClampNeg = i) (hl : i < vs.length) (hd : decode c.code pc = .ok (.castore, 1)) (hp : pc + 1 = pc') (kk : ∀ T' h', Stand p l e R s m args below meth c T' (locs ++ [⟨a, j.toNatClampNeg⟩]) cells slots → T'.heap = h' → Wr h h' a j.toNatClampNeg (.int (nar .char x)) → Arv Z h' a k .char z (vs.set i (.int (nar .char x))) dv → Ends p.tables e below (T'.setTop (mkF m pc' ls st)) P) : Ends p.tables e below (T.setTop (mkF m pc ls (.int x :: .int j :: .ref a :: st))) P := by
  obtain ⟨cl, A, q1, S, M, H, G⟩ := F
  exact s_stC X hx hZ eT A (inb_of S hj) hd hp fun T' h' X' e' W => kk T' h' X' e' W (Arv.set A q1 S M H G (fits_nar_char _) W i hi hl)
theorem s_putB (X : Stand p l e R s m args below meth c T locs cells slots) (hx : p.tables.exec = Jvm.exec) (hZ : Z.Warmed39 s.vm) (eT : T.heap = h) {a : Addr} {k : ClassId} {z : Int32} {vs : List Value} {dv : Value} {j : Int32} {x : Int32} (F : Arv Z h a k .byte z vs dv) (hj : ¬ j < 0 ∧ j < z) (i : Nat) (hi : j.toNatClampNeg = i) (hl : i < vs.length) (hd : decode c.code pc = .ok (.bastore, 1)) (hp : pc + 1 = pc') (kk : ∀ T' h', Stand p l e R s m args below meth c T' (locs ++ [⟨a, j.toNatClampNeg⟩]) cells slots → T'.heap = h' → Wr h h' a j.toNatClampNeg (.int (nar .byte x)) → Arv Z h' a k .byte z (vs.set i (.int (nar .byte x))) dv → Ends p.tables e below (T'.setTop (mkF m pc' ls st)) P) : Ends p.tables e below (T.setTop (mkF m pc ls (.int x :: .int j :: .ref a :: st))) P := by
  obtain ⟨cl, A, q1, S, M, H, G⟩ := F
  exact s_stB X hx hZ eT A (inb_of S hj) hd hp fun T' h' X' e' W => kk T' h' X' e' W (Arv.set A q1 S M H G (fits_nar_byte _) W i hi hl)
theorem s_initO (X : Stand p l e R s m args below meth c T locs cells slots) (hx : p.tables.exec = Jvm.exec) (hZ : Z.Warmed39 s.vm) {own : String} {idx : Nat} (hown : s.vm.findClass own = some m.cls) (w1 : (Jvm.Cond.methodLink own idx Lib.objectInit).before a0 Z = true) (w2 : (Jvm.Cond.instanceMethod Lib.objectInit).before a0 Z = true) (w3 : (Jvm.Cond.code Lib.objectInit ⟨#[0xb1]⟩ 1 none).before a0 Z = true) (eT : T.heap = h) (hsize : ls.size = c.maxLocals) {a : Addr} (hd : decode c.code pc = .ok (.invokespecial idx, 3)) (hf : 1 ≤ R.frames) {W : Nat} (hW : (st.map fun v => v.category).sum ≤ W) (hl : W + 12 ≤ R.locals) (hp : pc + 3 = pc') (k : ∀ T', Stand p l e R s m args below meth c T' locs cells slots → T'.heap = h → Ends p.tables e below (T'.setTop (mkF m pc' ls st)) P) : Ends p.tables e below (T.setTop (mkF m pc ls (.ref a :: st))) P := by
  subst hp
  obtain ⟨T', X', e', s'⟩ := initO X hx hZ hown w1 w2 w3 eT (g := mkF m pc ls (.ref a :: st)) rfl hsize rfl hd hf (W := W) (by show 2 * 0 + _ ≤ _; omega) hl
  exact own_via s' (k T' X' e')
theorem s_castY (X : Stand p l e R s m args below meth c T locs cells slots) (hx : p.tables.exec = Jvm.exec) (hZ : Z.Warmed39 s.vm) {own K : String} {index : Nat} (hown : s.vm.findClass own = some m.cls) (w : (Jvm.Cond.classLink own index K).before a0 Z = true) (eT : T.heap = h) {a : Addr} (F : Ins Z h a K true) (hd : decode c.code pc = .ok (.checkcast index, 3)) (hp : pc + 3 = pc') (k : ∀ T', Stand p l e R s m args below meth c T' locs cells slots → T'.heap = h → Ends p.tables e below (T'.setTop (mkF m pc' ls (.ref a :: st))) P) : Ends p.tables e below (T.setTop (mkF m pc ls (.ref a :: st))) P := by
  subst hp
  obtain ⟨T', X', e', s'⟩ := castY X hx hZ hown w eT F (g := mkF m pc ls (.ref a :: st)) rfl rfl hd
  exact own_via s' (k T' X' e')
theorem s_instY (X : Stand p l e R s m args below meth c T locs cells slots) (hx : p.tables.exec = Jvm.exec) (hZ : Z.Warmed39 s.vm) {own K : String} {index : Nat} (hown : s.vm.findClass own = some m.cls) (w : (Jvm.Cond.classLink own index K).before a0 Z = true) (eT : T.heap = h) {a : Addr} (F : Ins Z h a K true) (hd : decode c.code pc = .ok (.instanceof index, 3)) (hp : pc + 3 = pc') (k : ∀ T', Stand p l e R s m args below meth c T' locs cells slots → T'.heap = h → Ends p.tables e below (T'.setTop (mkF m pc' ls (.int 1 :: st))) P) : Ends p.tables e below (T.setTop (mkF m pc ls (.ref a :: st))) P := by
  subst hp
  obtain ⟨T', X', e', s'⟩ := instY X hx hZ hown w eT F (g := mkF m pc ls (.ref a :: st)) rfl rfl hd
  exact own_via s' (k T' X' e')
theorem s_callS (X : Stand p l e R s m args below meth c T locs cells slots) (hx : p.tables.exec = Jvm.exec) (hZ : Z.Warmed39 s.vm) {y : MethodName} {bytes : ByteArray} {maxL : Nat} {ret : Option FieldType} {rm : Room} {W : Nat} {as' : Array Value} {Q : Option Value → Heap → List Loc → Prop} {own : String} {index : Nat} (hown : s.vm.findClass own = some m.cls) (w1 : (Jvm.Cond.methodLink own index y).before a0 Z = true) (w2 : (Jvm.Cond.static y).before a0 Z = true) (w3 : (Jvm.Cond.initialized y.cls).before a0 Z = true) (w4 : (Jvm.Cond.code y bytes maxL ret).before a0 Z = true) (hy : y.cls ≠ "java/lang/invoke/MethodHandle" ∧ y.cls ≠ "java/lang/invoke/VarHandle") (eT : T.heap = h) (hM : MetFree l y (head1 [Jvm.Cond.code y bytes maxL ret] rm) (fun a U => a = as' ∧ Z.Warmed39 U.vm ∧ U.heap = h) (fun _ _ _ _ _ => True) (fun _ U o U' => ∃ v L, o = .returned v ∧ Q v U'.heap L ∧ FrameEnd U o U' L rm.cells rm.slots)) (hsize : ls.size = c.maxLocals) (argsL rest : List Value) (has : as' = argsL.toArray) (hlen : ∀ sig, parseMethodDescriptor y.desc = some sig → argsL.length = sig.parameters.length) (hstack : st = argsL.reverse ++ rest) (hW : (rest.map fun v => v.category).sum ≤ W) (hf : rm.frames + 1 ≤ R.frames) (hl : W + (maxL + 11) + rm.locals ≤ R.locals) (hce : cells + rm.cells ≤ R.cells) (hsl : slots + rm.slots ≤ R.slots) (hp : pc + 3 = pc') (hd : decode c.code pc = .ok (.invokestatic index, 3)) (k : ∀ T' v L, Stand p l e R s m args below meth c T' (locs ++ L) (cells + rm.cells) (slots + rm.slots) → Q v T'.heap L → Ends p.tables e below (T'.setTop (mkF m pc' ls (v.toList ++ rest))) P) : Ends p.tables e below (T.setTop (mkF m pc ls st)) P := by
  subst hp has hstack
  obtain ⟨v, _, ⟨T', _, _, _⟩, -, X', ⟨L, hQ, e1, e2, e3⟩, s'⟩ := Jvm.LawKit.callS X hx (y := y) hown (mvT hZ w1) (mvT hZ w2) (mvT hZ w3) (mvT hZ w4) hy (backOf (W := W) hM hZ w4 w3 hf hl) (g := mkF m pc ls (argsL.reverse ++ rest)) rfl hsize (argsL := argsL) (rest := rest) hlen rfl (by show 2 * 0 + _ ≤ _; omega) hd (fun _ _ => ⟨rfl, eT, hce, hsl⟩)
  dsimp only [Pt.U, Pt.locs, Pt.cells, Pt.slots] at X' e1 e2 e3 s' hQ
  subst e1 e2 e3
  exact own_via s' (k T' v L X' hQ)
theorem s_callI (X : Stand p l e R s m args below meth c T locs cells slots) (hx : p.tables.exec = Jvm.exec) (hZ : Z.Warmed39 s.vm) {y : MethodName} {bytes : ByteArray} {maxL : Nat} {rm : Room} {W : Nat} {as' : Array Value} {Q : Option Value → Heap → List Loc → Prop} {own : String} {index : Nat} (hy1 : y.name = "<init>") (hown : s.vm.findClass own = some m.cls) (w1 : (Jvm.Cond.methodLink own index y).before a0 Z = true) (w2 : (Jvm.Cond.instanceMethod y).before a0 Z = true) (w3 : (Jvm.Cond.initialized y.cls).before a0 Z = true) (w4 : (Jvm.Cond.code y bytes maxL none).before a0 Z = true) (hy : y.cls ≠ "java/lang/invoke/MethodHandle" ∧ y.cls ≠ "java/lang/invoke/VarHandle") (eT : T.heap = h) (hM : MetFree l y (head1 [Jvm.Cond.code y bytes maxL none] rm) (fun a U => a = as' ∧ Z.Warmed39 U.vm ∧ U.heap = h) (fun _ _ _ _ _ => True) (fun _ U o U' => ∃ v L, o = .returned v ∧ Q v U'.heap L ∧ FrameEnd U o U' L rm.cells rm.slots)) (a : Addr) (hsize : ls.size = c.maxLocals) (argsL rest : List Value) (has : as' = (.ref a :: argsL).toArray) (hlen : ∀ sig, parseMethodDescriptor y.desc = some sig → argsL.length = sig.parameters.length) (hstack : st = argsL.reverse ++ .ref a :: rest) (hW : (rest.map fun v => v.category).sum ≤ W) (hf : rm.frames + 1 ≤ R.frames) (hl : W + (maxL + 11) + rm.locals ≤ R.locals) (hce : cells + rm.cells ≤ R.cells) (hsl : slots + rm.slots ≤ R.slots) (hp : pc + 3 = pc') (hd : decode c.code pc = .ok (.invokespecial index, 3)) (k : ∀ T' v L, Stand p l e R s m args below meth c T' (locs ++ L) (cells + rm.cells) (slots + rm.slots) → Q v T'.heap L → Ends p.tables e below (T'.setTop (mkF m pc' ls (v.toList ++ rest))) P) : Ends p.tables e below (T.setTop (mkF m pc ls st)) P := by
  subst hp has hstack
  obtain ⟨v, _, ⟨T', _, _, _⟩, -, X', ⟨L, hQ, e1, e2, e3⟩, s'⟩ := X.specialBack hx (y := y) hy1 hown (mvT hZ w1) (mvT hZ w2) (mvT hZ w4) hy (backOf (W := W) hM hZ w4 w3 hf hl) (g := mkF m pc ls (argsL.reverse ++ .ref a :: rest)) rfl hsize (Steps.refl _) (a := a) (argsL := argsL) (rest := rest) hlen rfl (by show 2 * 0 + _ ≤ _; omega) hd (fun _ _ => ⟨rfl, eT, hce, hsl⟩)
  dsimp only [Pt.U, Pt.locs, Pt.cells, Pt.slots] at X' e1 e2 e3 s' hQ
  subst e1 e2 e3
  exact own_via (fun t_ k_ => s'.trans k_) (k T' v L X' hQ)
theorem s_callV (X : Stand p l e R s m args below meth c T locs cells slots) (hx : p.tables.exec = Jvm.exec) (hZ : Z.Warmed39 s.vm) {y : MethodName} {bytes : ByteArray} {maxL : Nat} {ret : Option FieldType} {rm : Room} {W : Nat} {as' : Array Value} {Q : Option Value → Heap → List Loc → Prop} {a : Addr} {own C : String} {index : Nat} (hown : s.vm.findClass own = some m.cls) (w1 : (Jvm.Cond.methodLink own index y).before a0 Z = true) (w2 : (Jvm.Cond.declares y).before a0 Z = true) (w3 : (Jvm.Cond.initialized y.cls).before a0 Z = true) (w4 : (Jvm.Cond.code y bytes maxL ret).before a0 Z = true) (w5 : (Jvm.Cond.selects C y y).before a0 Z = true) (w6 : (Jvm.Cond.instanceMethod y).before a0 Z = true) (hy : y.cls ≠ "java/lang/invoke/MethodHandle" ∧ y.cls ≠ "java/lang/invoke/VarHandle") (eT : T.heap = h) (E : Exa Z h a C) (hM : MetFree l y (head1 [Jvm.Cond.code y bytes maxL ret] rm) (fun a U => a = as' ∧ Z.Warmed39 U.vm ∧ U.heap = h) (fun _ _ _ _ _ => True) (fun _ U o U' => ∃ v L, o = .returned v ∧ Q v U'.heap L ∧ FrameEnd U o U' L rm.cells rm.slots)) (hsize : ls.size = c.maxLocals) (argsL rest : List Value) (has : as' = (.ref a :: argsL).toArray) (hlen : ∀ sig, parseMethodDescriptor y.desc = some sig → argsL.length = sig.parameters.length) (hstack : st = argsL.reverse ++ .ref a :: rest) (hW : (rest.map fun v => v.category).sum ≤ W) (hf : rm.frames + 1 ≤ R.frames) (hl : W + (maxL + 11) + rm.locals ≤ R.locals) (hce : cells + rm.cells ≤ R.cells) (hsl : slots + rm.slots ≤ R.slots) (hp : pc + 3 = pc') (hd : decode c.code pc = .ok (.invokevirtual index, 3)) (k : ∀ T' v L, Stand p l e R s m args below meth c T' (locs ++ L) (cells + rm.cells) (slots + rm.slots) → Q v T'.heap L → Ends p.tables e below (T'.setTop (mkF m pc' ls (v.toList ++ rest))) P) : Ends p.tables e below (T.setTop (mkF m pc ls st)) P := by
  subst hp has hstack
  obtain ⟨cq, kq, qa, qb, qc⟩ := isOf hZ eT E
  obtain ⟨v, _, ⟨T', _, _, _⟩, -, X', ⟨L, hQ, e1, e2, e3⟩, s'⟩ := X.virtualBack hx (y := y) (z := y) hown (mvT hZ w1) (mvT hZ w2) (notFace_of_selects (args := #[]) (mvT hZ w5)) (mvT hZ w5) (mvT hZ w6) hy (backOf (W := W) hM hZ w4 w3 hf hl) qa qc (g := mkF m pc ls (argsL.reverse ++ .ref a :: rest)) rfl hsize (Steps.refl _) (argsL := argsL) (rest := rest) hlen rfl (by show 2 * 0 + _ ≤ _; omega) hd (fun _ _ => ⟨rfl, eT, hce, hsl⟩)
  dsimp only [Pt.U, Pt.locs, Pt.cells, Pt.slots] at X' e1 e2 e3 s' hQ
  subst e1 e2 e3
  exact own_via (fun t_ k_ => s'.trans k_) (k T' v L X' hQ)
theorem s_callP (X : Stand p l e R s m args below meth c T locs cells slots) (hx : p.tables.exec = Jvm.exec) (hZ : Z.Warmed39 s.vm) {y : MethodName} {bytes : ByteArray} {maxL : Nat} {ret : Option FieldType} {rm : Room} {W : Nat} {as' : Array Value} {Q : Option Value → Heap → List Loc → Prop} {a : Addr} {own C : String} {index : Nat} {zz : MethodName} (hzz : zz.cls = y.cls) (hown : s.vm.findClass own = some m.cls) (w1 : (Jvm.Cond.methodLink own index y).before a0 Z = true) (w2 : (Jvm.Cond.privateMethod y).before a0 Z = true) (w3 : (Jvm.Cond.initialized y.cls).before a0 Z = true) (w4 : (Jvm.Cond.code y bytes maxL ret).before a0 Z = true) (w5 : (Jvm.Cond.selects zz.cls zz zz).before a0 Z = true) (w6 : (Jvm.Cond.instanceMethod y).before a0 Z = true) (hy : y.cls ≠ "java/lang/invoke/MethodHandle" ∧ y.cls ≠ "java/lang/invoke/VarHandle") (eT : T.heap = h) (E : Exa Z h a C) (hM : MetFree l y (head1 [Jvm.Cond.code y bytes maxL ret] rm) (fun a U => a = as' ∧ Z.Warmed39 U.vm ∧ U.heap = h) (fun _ _ _ _ _ => True) (fun _ U o U' => ∃ v L, o = .returned v ∧ Q v U'.heap L ∧ FrameEnd U o U' L rm.cells rm.slots)) (hsize : ls.size = c.maxLocals) (argsL rest : List Value) (has : as' = (.ref a :: argsL).toArray) (hlen : ∀ sig, parseMethodDescriptor y.desc = some sig → argsL.length = sig.parameters.length) (hstack : st = argsL.reverse ++ .ref a :: rest) (hW : (rest.map fun v => v.category).sum ≤ W) (hf : rm.frames + 1 ≤ R.frames) (hl : W + (maxL + 11) + rm.locals ≤ R.locals) (hce : cells + rm.cells ≤ R.cells) (hsl : slots + rm.slots ≤ R.slots) (hp : pc + 3 = pc') (hd : decode c.code pc = .ok (.invokevirtual index, 3)) (k : ∀ T' v L, Stand p l e R s m args below meth c T' (locs ++ L) (cells + rm.cells) (slots + rm.slots) → Q v T'.heap L → Ends p.tables e below (T'.setTop (mkF m pc' ls (v.toList ++ rest))) P) : Ends p.tables e below (T.setTop (mkF m pc ls st)) P := by
  subst hp has hstack
  obtain ⟨cq, qa, qb⟩ := E.cell
  have hpr := Cond.privateMethod_at (mvP hZ w2 (args := #[]))
  obtain ⟨v, _, ⟨T', _, _, _⟩, -, X', ⟨L, hQ, e1, e2, e3⟩, s'⟩ := X.privateBack hx (y := y) hown (mvT hZ w1) (mvT hZ w6) (own_selPriv hzz (mvT hZ w5) hpr (mvT hZ w6) hy) hpr (mvT hZ w4) hy (backOf (W := W) hM hZ w4 w3 hf hl) (g := mkF m pc ls (argsL.reverse ++ .ref a :: rest)) rfl hsize (Steps.refl _) (a := a) (by rw [eT]; exact qa) qb (argsL := argsL) (rest := rest) hlen rfl (by show 2 * 0 + _ ≤ _; omega) hd (fun _ _ => ⟨rfl, eT, hce, hsl⟩)
  dsimp only [Pt.U, Pt.locs, Pt.cells, Pt.slots] at X' e1 e2 e3 s' hQ
  subst e1 e2 e3
  exact own_via (fun t_ k_ => s'.trans k_) (k T' v L X' hQ)
theorem s_irem (X : Stand p l e R s m args below meth c T locs cells slots) (hx : p.tables.exec = Jvm.exec) {x y : Int32} (hd : decode c.code pc = .ok (.irem, 1)) (hy : y ≠ 0) (hp : pc + 1 = pc') (hr : Ends p.tables e below (T.setTop (mkF m pc' ls (.int (x % y) :: st))) P) : Ends p.tables e below (T.setTop (mkF m pc ls (.int y :: .int x :: st))) P := by
  subst hp
  exact own_via (fun t_ k_ => iremM X hx rfl hd rfl hy k_) hr
theorem s_ldcI (X : Stand p l e R s m args below meth c T locs cells slots) (hx : p.tables.exec = Jvm.exec) (hZ : Z.Warmed39 s.vm) {own : String} {index : Nat} {v : Int32} (hown : s.vm.findClass own = some m.cls) (w : (Jvm.Cond.constant own index v).before a0 Z = true) (hd : decode c.code pc = .ok (.ldc index, 2)) (hp : pc + 2 = pc') (hr : Ends p.tables e below (T.setTop (mkF m pc' ls (.int v :: st))) P) : Ends p.tables e below (T.setTop (mkF m pc ls st)) P := by
  subst hp
  exact own_via (X.ldcInt hx hown (mvT hZ w) (g := mkF m pc ls st) rfl hd) hr
theorem s_ldcJ (X : Stand p l e R s m args below meth c T locs cells slots) (hx : p.tables.exec = Jvm.exec) (hZ : Z.Warmed39 s.vm) {own : String} {index : Nat} {v : Int64} (hown : s.vm.findClass own = some m.cls) (w : (Jvm.Cond.constantLong own index v).before a0 Z = true) (hd : decode c.code pc = .ok (.ldc2_w index, 3)) (hp : pc + 3 = pc') (hr : Ends p.tables e below (T.setTop (mkF m pc' ls (.long v :: st))) P) : Ends p.tables e below (T.setTop (mkF m pc ls st)) P := by
  subst hp
  exact own_via (X.ldc2Long hx hown (mvT hZ w) (g := mkF m pc ls st) rfl hd) hr
theorem s_callSS {vm0 : Vm} (X : Stand p l e R (s.setVm vm0) m args below meth c T locs cells slots) (hx : p.tables.exec = Jvm.exec) (hZ : Z.Warmed39 (s.setVm vm0).vm) {k0 : Nat} (hS : s.Since vm0 k0) (hk : k0 ≤ h.size) {y : MethodName} {bytes : ByteArray} {maxL : Nat} {ret : Option FieldType} {rm : Room} {W : Nat} {as' : Array Value} {Q : Option Value → Heap → List Loc → Prop} {own : String} {index : Nat} (hown : (s.setVm vm0).vm.findClass own = some m.cls) (w1 : (Jvm.Cond.methodLink own index y).before a0 Z = true) (w2 : (Jvm.Cond.static y).before a0 Z = true) (w3 : (Jvm.Cond.initialized y.cls).before a0 Z = true) (w4 : (Jvm.Cond.code y bytes maxL ret).before a0 Z = true) (hy : y.cls ≠ "java/lang/invoke/MethodHandle" ∧ y.cls ≠ "java/lang/invoke/VarHandle") (eT : T.heap = h) (hM : MetFree l y (head1 [Jvm.Cond.code y bytes maxL ret] rm) (fun a U => a = as' ∧ Z.Warmed39 U.vm ∧ U.heap = h) (fun _ _ _ _ _ => True) (fun _ U o U' => ∃ v L, o = .returned v ∧ Q v U'.heap L ∧ ReturnedEndW U o U' L rm.cells rm.slots)) (hsize : ls.size = c.maxLocals) (argsL rest : List Value) (has : as' = argsL.toArray) (hlen : ∀ sig, parseMethodDescriptor y.desc = some sig → argsL.length = sig.parameters.length) (hstack : st = argsL.reverse ++ rest) (hW : (rest.map fun v => v.category).sum ≤ W) (hf : rm.frames + 1 ≤ R.frames) (hl : W + (maxL + 11) + rm.locals ≤ R.locals) (hce : cells + rm.cells ≤ R.cells) (hsl : slots + rm.slots ≤ R.slots) (hp : pc + 3 = pc') (hd : decode c.code pc = .ok (.invokestatic index, 3)) (k : ∀ T' v L, Stand p l e R (s.setVm T'.vm) m args below meth c T' (locs ++ L) (cells + rm.cells) (slots + rm.slots) → s.Since T'.vm T'.heap.size → Z.Warmed39 (s.setVm T'.vm).vm → (s.setVm T'.vm).vm.findClass own = some m.cls → Q v T'.heap L → Ends p.tables e below (T'.setTop (mkF m pc' ls (v.toList ++ rest))) P) : Ends p.tables e below (T.setTop (mkF m pc ls st)) P := by
  subst hp has hstack
  obtain ⟨v, _, ⟨T', _, _, _⟩, -, X', S', g', ⟨L, hQ, e1, e2, e3⟩, s'⟩ := callSS X hx (y := y) hown (mvT hZ w1) (mvT hZ w2) (mvT hZ w3) (mvT hZ w4) hy (backOfS (W := W) hM hZ w4 w3 hf hl) (g := mkF m pc ls (argsL.reverse ++ rest)) rfl hsize (argsL := argsL) (rest := rest) hlen rfl (by show 2 * 0 + _ ≤ _; omega) hd (fun _ _ => ⟨rfl, eT, hce, hsl⟩)
  dsimp only [Pt.U, Pt.locs, Pt.cells, Pt.slots] at X' S' g' e1 e2 e3 s' hQ
  subst e1 e2 e3
  obtain ⟨X2, S2, Z2, o2⟩ := rebS hS (show _ ≤ T.heap.size by rw [eT]; exact hk) X' S' g' hZ hown
  exact own_via (fun t_ k_ => s'.trans k_) (k T' v L X2 S2 Z2 o2 hQ)
theorem s_callIS {vm0 : Vm} (X : Stand p l e R (s.setVm vm0) m args below meth c T locs cells slots) (hx : p.tables.exec = Jvm.exec) (hZ : Z.Warmed39 (s.setVm vm0).vm) {k0 : Nat} (hS : s.Since vm0 k0) (hk : k0 ≤ h.size) {y : MethodName} {bytes : ByteArray} {maxL : Nat} {rm : Room} {W : Nat} {as' : Array Value} {Q : Option Value → Heap → List Loc → Prop} {own : String} {index : Nat} (hown : (s.setVm vm0).vm.findClass own = some m.cls) (hy1 : y.name = "<init>") (w1 : (Jvm.Cond.methodLink own index y).before a0 Z = true) (w2 : (Jvm.Cond.instanceMethod y).before a0 Z = true) (w3 : (Jvm.Cond.initialized y.cls).before a0 Z = true) (w4 : (Jvm.Cond.code y bytes maxL none).before a0 Z = true) (hy : y.cls ≠ "java/lang/invoke/MethodHandle" ∧ y.cls ≠ "java/lang/invoke/VarHandle") (eT : T.heap = h) (hM : MetFree l y (head1 [Jvm.Cond.code y bytes maxL none] rm) (fun a U => a = as' ∧ Z.Warmed39 U.vm ∧ U.heap = h) (fun _ _ _ _ _ => True) (fun _ U o U' => ∃ v L, o = .returned v ∧ Q v U'.heap L ∧ ReturnedEndW U o U' L rm.cells rm.slots)) (a : Addr) (hsize : ls.size = c.maxLocals) (argsL rest : List Value) (has : as' = (.ref a :: argsL).toArray) (hlen : ∀ sig, parseMethodDescriptor y.desc = some sig → argsL.length = sig.parameters.length) (hstack : st = argsL.reverse ++ .ref a :: rest) (hW : (rest.map fun v => v.category).sum ≤ W) (hf : rm.frames + 1 ≤ R.frames) (hl : W + (maxL + 11) + rm.locals ≤ R.locals) (hce : cells + rm.cells ≤ R.cells) (hsl : slots + rm.slots ≤ R.slots) (hp : pc + 3 = pc') (hd : decode c.code pc = .ok (.invokespecial index, 3)) (k : ∀ T' v L, Stand p l e R (s.setVm T'.vm) m args below meth c T' (locs ++ L) (cells + rm.cells) (slots + rm.slots) → s.Since T'.vm T'.heap.size → Z.Warmed39 (s.setVm T'.vm).vm → (s.setVm T'.vm).vm.findClass own = some m.cls → Q v T'.heap L → Ends p.tables e below (T'.setTop (mkF m pc' ls (v.toList ++ rest))) P) : Ends p.tables e below (T.setTop (mkF m pc ls st)) P := by
  subst hp has hstack
  obtain ⟨v, _, ⟨T', _, _, _⟩, -, X', S', g', ⟨L, hQ, e1, e2, e3⟩, s'⟩ := X.specialBackS hx (y := y) hy1 hown (mvT hZ w1) (mvT hZ w2) (mvT hZ w4) hy (backOfS (W := W) hM hZ w4 w3 hf hl) (g := mkF m pc ls (argsL.reverse ++ .ref a :: rest)) rfl hsize (Steps.refl _) (a := a) (argsL := argsL) (rest := rest) hlen rfl (by show 2 * 0 + _ ≤ _; omega) hd (fun _ _ => ⟨rfl, eT, hce, hsl⟩)
  dsimp only [Pt.U, Pt.locs, Pt.cells, Pt.slots] at X' S' g' e1 e2 e3 s' hQ
  subst e1 e2 e3
  obtain ⟨X2, S2, Z2, o2⟩ := rebS hS (show _ ≤ T.heap.size by rw [eT]; exact hk) X' S' g' hZ hown
  exact own_via (fun t_ k_ => s'.trans k_) (k T' v L X2 S2 Z2 o2 hQ)
theorem s_callVS {vm0 : Vm} (X : Stand p l e R (s.setVm vm0) m args below meth c T locs cells slots) (hx : p.tables.exec = Jvm.exec) (hZ : Z.Warmed39 (s.setVm vm0).vm) {k0 : Nat} (hS : s.Since vm0 k0) (hk : k0 ≤ h.size) {y : MethodName} {bytes : ByteArray} {maxL : Nat} {ret : Option FieldType} {rm : Room} {W : Nat} {as' : Array Value} {Q : Option Value → Heap → List Loc → Prop} {a : Addr} {C : String} {own : String} {index : Nat} (hown : (s.setVm vm0).vm.findClass own = some m.cls) (w1 : (Jvm.Cond.methodLink own index y).before a0 Z = true) (w2 : (Jvm.Cond.declares y).before a0 Z = true) (w3 : (Jvm.Cond.initialized y.cls).before a0 Z = true) (w4 : (Jvm.Cond.code y bytes maxL ret).before a0 Z = true) (w5 : (Jvm.Cond.selects C y y).before a0 Z = true) (w6 : (Jvm.Cond.instanceMethod y).before a0 Z = true) (hy : y.cls ≠ "java/lang/invoke/MethodHandle" ∧ y.cls ≠ "java/lang/invoke/VarHandle") (eT : T.heap = h) (E : Exa Z h a C) (hM : MetFree l y (head1 [Jvm.Cond.code y bytes maxL ret] rm) (fun a U => a = as' ∧ Z.Warmed39 U.vm ∧ U.heap = h) (fun _ _ _ _ _ => True) (fun _ U o U' => ∃ v L, o = .returned v ∧ Q v U'.heap L ∧ ReturnedEndW U o U' L rm.cells rm.slots)) (hsize : ls.size = c.maxLocals) (argsL rest : List Value) (has : as' = (.ref a :: argsL).toArray) (hlen : ∀ sig, parseMethodDescriptor y.desc = some sig → argsL.length = sig.parameters.length) (hstack : st = argsL.reverse ++ .ref a :: rest) (hW : (rest.map fun v => v.category).sum ≤ W) (hf : rm.frames + 1 ≤ R.frames) (hl : W + (maxL + 11) + rm.locals ≤ R.locals) (hce : cells + rm.cells ≤ R.cells) (hsl : slots + rm.slots ≤ R.slots) (hp : pc + 3 = pc') (hd : decode c.code pc = .ok (.invokevirtual index, 3)) (k : ∀ T' v L, Stand p l e R (s.setVm T'.vm) m args below meth c T' (locs ++ L) (cells + rm.cells) (slots + rm.slots) → s.Since T'.vm T'.heap.size → Z.Warmed39 (s.setVm T'.vm).vm → (s.setVm T'.vm).vm.findClass own = some m.cls → Q v T'.heap L → Ends p.tables e below (T'.setTop (mkF m pc' ls (v.toList ++ rest))) P) : Ends p.tables e below (T.setTop (mkF m pc ls st)) P := by
  subst hp has hstack
  obtain ⟨cq, kq, qa, qb, qc⟩ := isOf hZ eT E
  obtain ⟨v, _, ⟨T', _, _, _⟩, -, X', S', g', ⟨L, hQ, e1, e2, e3⟩, s'⟩ := X.virtualBackS hx (y := y) (z := y) hown (mvT hZ w1) (mvT hZ w2) (notFace_of_selects (args := #[]) (mvT hZ w5)) (mvT hZ w5) (mvT hZ w6) hy (backOfS (W := W) hM hZ w4 w3 hf hl) qa qc (g := mkF m pc ls (argsL.reverse ++ .ref a :: rest)) rfl hsize (Steps.refl _) (argsL := argsL) (rest := rest) hlen rfl (by show 2 * 0 + _ ≤ _; omega) hd (fun _ _ => ⟨rfl, eT, hce, hsl⟩)
  dsimp only [Pt.U, Pt.locs, Pt.cells, Pt.slots] at X' S' g' e1 e2 e3 s' hQ
  subst e1 e2 e3
  obtain ⟨X2, S2, Z2, o2⟩ := rebS hS (show _ ≤ T.heap.size by rw [eT]; exact hk) X' S' g' hZ hown
  exact own_via (fun t_ k_ => s'.trans k_) (k T' v L X2 S2 Z2 o2 hQ)
theorem s_ldcS {vm0 : Vm} (X : Stand p l e R (s.setVm vm0) m args below meth c T locs cells slots) (hx : p.tables.exec = Jvm.exec) (hZ : Z.Warmed39 (s.setVm vm0).vm) {k0 : Nat} (hS : s.Since vm0 k0) (hk : k0 ≤ h.size) {own : String} {index : Nat} (hown : (s.setVm vm0).vm.findClass own = some m.cls) {text : String} (w : (Jvm.Cond.stringLink own index text).before a0 Z = true) (wS : ∀ a ∈ Bundle.stringAtoms, a.before a0 Z = true) (eT : T.heap = h) (hd : decode c.code pc = .ok (.ldc index, 2)) {n : Nat} (hn : 4 * text.toList.length ≤ n) (hbig : n ≤ 536870912) (hc : cells + 2 ≤ R.cells) (hl : slots + (n + 4) ≤ R.slots) (hp : pc + 2 = pc') (k : ∀ a T' h' k1, Stand p l e R (s.setVm T'.vm) m args below meth c T' locs (cells + 2) (slots + (n + 4)) → T'.heap = h' → Ext h h' → s.Since T'.vm k1 → k1 ≤ h'.size → Z.Warmed39 (s.setVm T'.vm).vm → (s.setVm T'.vm).vm.findClass own = some m.cls → Ends p.tables e below (T'.setTop (mkF m pc' ls (.ref a :: st))) P) : Ends p.tables e below (T.setTop (mkF m pc ls st)) P := by
  subst hp
  obtain ⟨a, T', h', k1, X', e', E', S', g', Z', o', s'⟩ := ldcS X hx hZ hown w wS eT hS hk (g := mkF m pc ls st) rfl hd hn hbig hc hl
  exact own_via s' (k a T' h' k1 X' e' E' S' g' Z' o')
theorem s_ldcSW {vm0 : Vm} (X : Stand p l e R (s.setVm vm0) m args below meth c T locs cells slots) (hx : p.tables.exec = Jvm.exec) (hZ : Z.Warmed39 (s.setVm vm0).vm) {k0 : Nat} (hS : s.Since vm0 k0) (hk : k0 ≤ h.size) {own : String} {index : Nat} (hown : (s.setVm vm0).vm.findClass own = some m.cls) {text : String} (w : (Jvm.Cond.stringLink own index text).before a0 Z = true) (wS : ∀ a ∈ Bundle.stringAtoms, a.before a0 Z = true) (eT : T.heap = h) (hd : decode c.code pc = .ok (.ldc_w index, 3)) {n : Nat} (hn : 4 * text.toList.length ≤ n) (hbig : n ≤ 536870912) (hc : cells + 2 ≤ R.cells) (hl : slots + (n + 4) ≤ R.slots) (hp : pc + 3 = pc') (k : ∀ a T' h' k1, Stand p l e R (s.setVm T'.vm) m args below meth c T' locs (cells + 2) (slots + (n + 4)) → T'.heap = h' → Ext h h' → s.Since T'.vm k1 → k1 ≤ h'.size → Z.Warmed39 (s.setVm T'.vm).vm → (s.setVm T'.vm).vm.findClass own = some m.cls → Ends p.tables e below (T'.setTop (mkF m pc' ls (.ref a :: st))) P) : Ends p.tables e below (T.setTop (mkF m pc ls st)) P := by
  subst hp
  obtain ⟨a, T', h', k1, X', e', E', S', g', Z', o', s'⟩ := ldcSW X hx hZ hown w wS eT hS hk (g := mkF m pc ls st) rfl hd hn hbig hc hl
  exact own_via s' (k a T' h' k1 X' e' E' S' g' Z' o')
end OwnLaws
section OwnHeld
variable {p : Program} {l : Launch} {e : Env} {R : Room} {s : State} {m : MethodId} {args : Array Value} {below : List Frame} {meth : Method} {c : Code} {T : State} {locs : List Loc} {cells slots : Nat} {Z : State} {a0 : Array Value} {EL : List (String × Nat)} {h : Heap} {vm0 : Vm} {P : State → Outcome → Prop} {pc pc' : Nat} {ls : Array Slot} {st : List Value} {sf : List Addr}
theorem own_safe0 {vm : Vm} : ∀ x ∈ ([] : List Addr), x < h.size ∧ Safe Z EL vm h x := fun _ q => nomatch q
theorem own_safeS {vm : Vm} {x : Addr} {L : List Addr} (a : x < h.size) (b : Safe Z EL vm h x) (r : ∀ y ∈ L, y < h.size ∧ Safe Z EL vm h y) : ∀ y ∈ x :: L, y < h.size ∧ Safe Z EL vm h y := fun y q => by
  rcases List.mem_cons.mp q with rfl | q
  · exact ⟨a, b⟩
  · exact r y q
theorem own_backH {y : MethodName} {bytes : ByteArray} {maxL : Nat} {ret : Option FieldType} {rm : Room} {W : Nat} {as' : Array Value} {Q : Option Value → Heap → List Loc → Prop} {len : Nat} (hM : MetFree l y (head1 [Jvm.Cond.code y bytes maxL ret] rm) (fun a U => a = as' ∧ Z.Warmed39 U.vm ∧ U.heap = h ∧ CHv Z EL U.vm h ∧ ∀ x ∈ sf, Safe Z EL U.vm h x) (fun _ _ _ _ _ => True) (fun _ U o U' => ∃ v L, o = .returned v ∧ Q v U'.heap L ∧ CHr Z EL U.vm U.heap U'.vm U'.heap ∧ ReturnedEndW U o U' L rm.cells rm.slots)) (hZ : Z.Warmed39 vm0) (wc : (Jvm.Cond.code y bytes maxL ret).before a0 Z = true) (wz : (Jvm.Cond.initialized y.cls).before a0 Z = true) (hf : rm.frames + 1 ≤ R.frames) (hl : W + (maxL + 11) + rm.locals ≤ R.locals) (hEL : EW Z a0 EL) (H : CHv Z EL vm0 h) (hsf : ∀ x ∈ sf, x < h.size ∧ Safe Z EL vm0 h x) :
    BackS l R p e below (s.setVm vm0) args y len W (fun A a => a = as' ∧ A.U.heap = h ∧ A.cells + rm.cells ≤ R.cells ∧ A.slots + rm.slots ≤ R.slots)
      (fun A _ v B => ∃ L, Q v B.U.heap L ∧ B.locs = A.locs ++ L ∧ B.cells = A.cells + rm.cells ∧ B.slots = A.slots + rm.slots ∧ CHr Z EL vm0 h B.U.vm B.U.heap) := by
  refine BackS.of_freeW (bytes := bytes) (maxL := maxL) (ret := ret) (E := fun _ U o t L k n => k = rm.cells ∧ n = rm.slots ∧ (∃ v, o = .returned v ∧ Q v t.heap L) ∧ CHr Z EL U.vm U.heap t.vm t.heap) hM hf hl ?_ ?_ ?_ ?_ ?_
  · intro m meth c A a Y hp
    have hU : Z.Warmed39 A.U.vm := wtrans (s := s.setVm vm0) hZ Y.warmed
    refine ⟨?_, mv hU wc, mv hU wz, hp.2.2.1, hp.2.2.2⟩
    show (Jvm.Cond.and _ .tt).before a A.U = true
    rw [Cond.before_and, mv hU wc]
    rfl
  · intro m meth c A a g mk Y hp
    have hR := CHv.at Y hZ hEL H
    exact ⟨hp.1, wtrans (s := s.setVm vm0) hZ Y.warmed, hp.2.1, hR.1, fun x hx => hR.safe (hsf x hx).1 (hsf x hx).2⟩
  · intro m meth c A a g mk Y hp
    trivial
  · intro a U o t q
    obtain ⟨v, L, h1, h2, h3, h4⟩ := q
    exact ⟨L, _, _, h4, rfl, rfl, ⟨v, h1, h2⟩, h3⟩
  · intro m meth c A a g mk v t L k n Y hp _ _ q
    obtain ⟨e1, e2, ⟨v', e3, e4⟩, e5⟩ := q
    cases e3
    subst e1 e2
    refine ⟨L, e4, rfl, rfl, rfl, (CHv.at Y hZ hEL H).trans ?_⟩
    rw [← hp.2.1]
    exact e5
theorem s_callSH (X : Stand p l e R (s.setVm vm0) m args below meth c T locs cells slots) (hx : p.tables.exec = Jvm.exec) (hZ : Z.Warmed39 (s.setVm vm0).vm) {k0 : Nat} (hS : s.Since vm0 k0) (hk : k0 ≤ h.size) (hEL : EW Z a0 EL) (HC : CHv Z EL vm0 h) {y : MethodName} {bytes : ByteArray} {maxL : Nat} {ret : Option FieldType} {rm : Room} {W : Nat} {as' : Array Value} {Q : Option Value → Heap → List Loc → Prop} {own : String} {index : Nat} (hown : (s.setVm vm0).vm.findClass own = some m.cls) (w1 : (Jvm.Cond.methodLink own index y).before a0 Z = true) (w2 : (Jvm.Cond.static y).before a0 Z = true) (w3 : (Jvm.Cond.initialized y.cls).before a0 Z = true) (w4 : (Jvm.Cond.code y bytes maxL ret).before a0 Z = true) (hy : y.cls ≠ "java/lang/invoke/MethodHandle" ∧ y.cls ≠ "java/lang/invoke/VarHandle") (eT : T.heap = h) (hM : MetFree l y (head1 [Jvm.Cond.code y bytes maxL ret] rm) (fun a U => a = as' ∧ Z.Warmed39 U.vm ∧ U.heap = h ∧ CHv Z EL U.vm h ∧ ∀ x ∈ sf, Safe Z EL U.vm h x) (fun _ _ _ _ _ => True) (fun _ U o U' => ∃ v L, o = .returned v ∧ Q v U'.heap L ∧ CHr Z EL U.vm U.heap U'.vm U'.heap ∧ ReturnedEndW U o U' L rm.cells rm.slots)) (hsf : ∀ x ∈ sf, x < h.size ∧ Safe Z EL vm0 h x) (hsize : ls.size = c.maxLocals) (argsL rest : List Value) (has : as' = argsL.toArray) (hlen : ∀ sig, parseMethodDescriptor y.desc = some sig → argsL.length = sig.parameters.length) (hstack : st = argsL.reverse ++ rest) (hW : (rest.map fun v => v.category).sum ≤ W) (hf : rm.frames + 1 ≤ R.frames) (hl : W + (maxL + 11) + rm.locals ≤ R.locals) (hce : cells + rm.cells ≤ R.cells) (hsl : slots + rm.slots ≤ R.slots) (hp : pc + 3 = pc') (hd : decode c.code pc = .ok (.invokestatic index, 3)) (k : ∀ T' v L, Stand p l e R (s.setVm T'.vm) m args below meth c T' (locs ++ L) (cells + rm.cells) (slots + rm.slots) → s.Since T'.vm T'.heap.size → Z.Warmed39 (s.setVm T'.vm).vm → (s.setVm T'.vm).vm.findClass own = some m.cls → CHr Z EL vm0 h T'.vm T'.heap → Q v T'.heap L → Ends p.tables e below (T'.setTop (mkF m pc' ls (v.toList ++ rest))) P) : Ends p.tables e below (T.setTop (mkF m pc ls st)) P := by
  subst hp has hstack
  obtain ⟨v, _, ⟨T', _, _, _⟩, -, X', S', g', ⟨L, hQ, e1, e2, e3, e4⟩, s'⟩ := callSS X hx (y := y) hown (mvT hZ w1) (mvT hZ w2) (mvT hZ w3) (mvT hZ w4) hy (own_backH (W := W) hM hZ w4 w3 hf hl hEL HC hsf) (g := mkF m pc ls (argsL.reverse ++ rest)) rfl hsize (argsL := argsL) (rest := rest) hlen rfl (by show 2 * 0 + _ ≤ _; omega) hd (fun _ _ => ⟨rfl, eT, hce, hsl⟩)
  dsimp only [Pt.U, Pt.locs, Pt.cells, Pt.slots] at X' S' g' e1 e2 e3 e4 s' hQ
  subst e1 e2 e3
  obtain ⟨X2, S2, Z2, o2⟩ := rebS hS (show _ ≤ T.heap.size by rw [eT]; exact hk) X' S' g' hZ hown
  exact own_via (fun t_ k_ => s'.trans k_) (k T' v L X2 S2 Z2 o2 e4 hQ)
theorem s_callIH (X : Stand p l e R (s.setVm vm0) m args below meth c T locs cells slots) (hx : p.tables.exec = Jvm.exec) (hZ : Z.Warmed39 (s.setVm vm0).vm) {k0 : Nat} (hS : s.Since vm0 k0) (hk : k0 ≤ h.size) (hEL : EW Z a0 EL) (HC : CHv Z EL vm0 h) {y : MethodName} {bytes : ByteArray} {maxL : Nat} {rm : Room} {W : Nat} {as' : Array Value} {Q : Option Value → Heap → List Loc → Prop} {own : String} {index : Nat} (hown : (s.setVm vm0).vm.findClass own = some m.cls) (hy1 : y.name = "<init>") (w1 : (Jvm.Cond.methodLink own index y).before a0 Z = true) (w2 : (Jvm.Cond.instanceMethod y).before a0 Z = true) (w3 : (Jvm.Cond.initialized y.cls).before a0 Z = true) (w4 : (Jvm.Cond.code y bytes maxL none).before a0 Z = true) (hy : y.cls ≠ "java/lang/invoke/MethodHandle" ∧ y.cls ≠ "java/lang/invoke/VarHandle") (eT : T.heap = h) (hM : MetFree l y (head1 [Jvm.Cond.code y bytes maxL none] rm) (fun a U => a = as' ∧ Z.Warmed39 U.vm ∧ U.heap = h ∧ CHv Z EL U.vm h ∧ ∀ x ∈ sf, Safe Z EL U.vm h x) (fun _ _ _ _ _ => True) (fun _ U o U' => ∃ v L, o = .returned v ∧ Q v U'.heap L ∧ CHr Z EL U.vm U.heap U'.vm U'.heap ∧ ReturnedEndW U o U' L rm.cells rm.slots)) (hsf : ∀ x ∈ sf, x < h.size ∧ Safe Z EL vm0 h x) (a : Addr) (hsize : ls.size = c.maxLocals) (argsL rest : List Value) (has : as' = (.ref a :: argsL).toArray) (hlen : ∀ sig, parseMethodDescriptor y.desc = some sig → argsL.length = sig.parameters.length) (hstack : st = argsL.reverse ++ .ref a :: rest) (hW : (rest.map fun v => v.category).sum ≤ W) (hf : rm.frames + 1 ≤ R.frames) (hl : W + (maxL + 11) + rm.locals ≤ R.locals) (hce : cells + rm.cells ≤ R.cells) (hsl : slots + rm.slots ≤ R.slots) (hp : pc + 3 = pc') (hd : decode c.code pc = .ok (.invokespecial index, 3)) (k : ∀ T' v L, Stand p l e R (s.setVm T'.vm) m args below meth c T' (locs ++ L) (cells + rm.cells) (slots + rm.slots) → s.Since T'.vm T'.heap.size → Z.Warmed39 (s.setVm T'.vm).vm → (s.setVm T'.vm).vm.findClass own = some m.cls → CHr Z EL vm0 h T'.vm T'.heap → Q v T'.heap L → Ends p.tables e below (T'.setTop (mkF m pc' ls (v.toList ++ rest))) P) : Ends p.tables e below (T.setTop (mkF m pc ls st)) P := by
  subst hp has hstack
  obtain ⟨v, _, ⟨T', _, _, _⟩, -, X', S', g', ⟨L, hQ, e1, e2, e3, e4⟩, s'⟩ := X.specialBackS hx (y := y) hy1 hown (mvT hZ w1) (mvT hZ w2) (mvT hZ w4) hy (own_backH (W := W) hM hZ w4 w3 hf hl hEL HC hsf) (g := mkF m pc ls (argsL.reverse ++ .ref a :: rest)) rfl hsize (Steps.refl _) (a := a) (argsL := argsL) (rest := rest) hlen rfl (by show 2 * 0 + _ ≤ _; omega) hd (fun _ _ => ⟨rfl, eT, hce, hsl⟩)
  dsimp only [Pt.U, Pt.locs, Pt.cells, Pt.slots] at X' S' g' e1 e2 e3 e4 s' hQ
  subst e1 e2 e3
  obtain ⟨X2, S2, Z2, o2⟩ := rebS hS (show _ ≤ T.heap.size by rw [eT]; exact hk) X' S' g' hZ hown
  exact own_via (fun t_ k_ => s'.trans k_) (k T' v L X2 S2 Z2 o2 e4 hQ)
theorem s_ldcCH (X : Stand p l e R (s.setVm vm0) m args below meth c T locs cells slots) (hx : p.tables.exec = Jvm.exec) (hZ : Z.Warmed39 (s.setVm vm0).vm) {k0 : Nat} (hS : s.Since vm0 k0) (hk : k0 ≤ h.size) (hEL : EW Z a0 EL) (HC : CHv Z EL vm0 h) {own : String} {index : Nat} (hown : (s.setVm vm0).vm.findClass own = some m.cls) {text : String} (w : (Jvm.Cond.stringLink own index text).before a0 Z = true) (wS : ∀ a ∈ Bundle.stringAtoms, a.before a0 Z = true) (eT : T.heap = h) (hmem : (own, index) ∈ EL) {vs : List Value} {z : Int32} (ht : (∀ c ∈ text.toList, c.toNat < 256) ∧ text.toList.map (fun c => Value.int (Jvm.Lit.byteI c.toNat.toUInt16)) = vs) (hz : ¬ z < 0) (hlz : z.toNatClampNeg = vs.length) (hd : decode c.code pc = .ok (.ldc index, 2)) {n : Nat} (hn : 4 * text.toList.length ≤ n) (hbig : n ≤ 536870912) (hc : cells + 2 ≤ R.cells) (hl : slots + (n + 4) ≤ R.slots) (hp : pc + 2 = pc') (k : ∀ a b kb T' h' k1, Stand p l e R (s.setVm T'.vm) m args below meth c T' locs (cells + 2) (slots + (n + 4)) → T'.heap = h' → Ext h h' → s.Since T'.vm k1 → k1 ≤ h'.size → Z.Warmed39 (s.setVm T'.vm).vm → (s.setVm T'.vm).vm.findClass own = some m.cls → CHr Z EL vm0 h T'.vm h' → Exa Z h' a "java/lang/String" → Fld Z h' a "java/lang/String" "coder" "B" (.int 0) → Fld Z h' a "java/lang/String" "value" "[B" (.ref b) → Arv Z h' b kb .byte z vs (.int 0) → (∀ x, Safe Z EL T'.vm h' x → x ≠ a ∧ x ≠ b) → Ends p.tables e below (T'.setTop (mkF m pc' ls (.ref a :: st))) P) : Ends p.tables e below (T.setTop (mkF m pc ls st)) P := by
  subst hp
  obtain ⟨a, T', h', k1, b, kb, X', e', E', S', g', Z', o', E1, F1, F2, V1, -, -, hr, -, hs, s'⟩ := ldcCH X hx hZ hown w wS eT hS hk hEL hmem HC ht hz hlz (g := mkF m pc ls st) rfl hd hn hbig hc hl
  exact own_via s' (k a b kb T' h' k1 X' e' E' S' g' Z' o' hr E1 F1 F2 V1 hs)
theorem s_ldcOH (X : Stand p l e R (s.setVm vm0) m args below meth c T locs cells slots) (hx : p.tables.exec = Jvm.exec) (hZ : Z.Warmed39 (s.setVm vm0).vm) {k0 : Nat} (hS : s.Since vm0 k0) (hk : k0 ≤ h.size) (hEL : EW Z a0 EL) (HC : CHv Z EL vm0 h) {own : String} {index : Nat} (hown : (s.setVm vm0).vm.findClass own = some m.cls) {text : String} (w : (Jvm.Cond.stringLink own index text).before a0 Z = true) (wS : ∀ a ∈ Bundle.stringAtoms, a.before a0 Z = true) (eT : T.heap = h) (hd : decode c.code pc = .ok (.ldc index, 2)) {n : Nat} (hn : 4 * text.toList.length ≤ n) (hbig : n ≤ 536870912) (hc : cells + 2 ≤ R.cells) (hl : slots + (n + 4) ≤ R.slots) (hp : pc + 2 = pc') (k : ∀ a T' h' k1, Stand p l e R (s.setVm T'.vm) m args below meth c T' locs (cells + 2) (slots + (n + 4)) → T'.heap = h' → Ext h h' → s.Since T'.vm k1 → k1 ≤ h'.size → Z.Warmed39 (s.setVm T'.vm).vm → (s.setVm T'.vm).vm.findClass own = some m.cls → CHr Z EL vm0 h T'.vm h' → Ends p.tables e below (T'.setTop (mkF m pc' ls (.ref a :: st))) P) : Ends p.tables e below (T.setTop (mkF m pc ls st)) P := by
  subst hp
  obtain ⟨a, T', h', k1, X', e', E', S', g', Z', o', hr, -, s'⟩ := ldcOH X hx hZ hown w wS eT hS hk hEL HC (g := mkF m pc ls st) rfl hd hn hbig hc hl
  exact own_via s' (k a T' h' k1 X' e' E' S' g' Z' o' hr)
end OwnHeld

theorem own_wS {Z : State} {a0 : Array Value} (hw : ∀ d ∈ tables_1, d.before a0 Z = true) : ∀ a ∈ Bundle.stringAtoms, a.before a0 Z = true := by
  intro a ha
  simp only [Bundle.stringAtoms, List.mem_cons, List.not_mem_nil, or_false] at ha
  rcases ha with rfl | rfl | rfl | rfl | rfl | rfl | rfl
  · exact (hw _ (List.mem_of_getElem? (i := 13) rfl))
  · exact (hw _ (List.mem_of_getElem? (i := 12) rfl))
  · exact (hw _ (List.mem_of_getElem? (i := 25) rfl))
  · exact (hw _ (List.mem_of_getElem? (i := 26) rfl))
  · exact (hw _ (List.mem_of_getElem? (i := 27) rfl))
  · exact (hw _ (List.mem_of_getElem? (i := 28) rfl))
  · exact (hw _ (List.mem_of_getElem? (i := 29) rfl))
theorem own_EW {Z : State} {a0 : Array Value} (hw : ∀ d ∈ tables_1, d.before a0 Z = true) : EW Z a0 consts_1 := (EW.cons (hw _ (List.mem_of_getElem? (i := 24) rfl)) (by decide) EW.nil)
theorem own_ch (x : Int32) : nar .char ((x &&& (255 : Int32)).toUInt32.toUInt16.toUInt32.toInt32) = x &&& (255 : Int32) := by
  rw [i2c_mask]
  exact i2c_mask x
/-- the i-th letter of x's text -/
def own_c (x i : Int32) : Int32 := ((x.toUInt32 >>> (((2 : Int32) + ((8 : Int32) * i)) &&& 31).toUInt32).toInt32) &&& (255 : Int32)
theorem own_cn (x i : Int32) : nar .char (own_c x i) = own_c x i := i2c_mask _
theorem own_cr (x i : Int32) : 0 ≤ (own_c x i).toInt ∧ (own_c x i).toInt ≤ 255 := c_and _ (255 : Int32) (by decide)
theorem own_le (x i : Int32) : ¬ (255 : Int32) < nar .char (own_c x i) := by
  rw [own_cn, Int32.lt_iff_toInt_lt]
  have h := own_cr x i
  have e : (255 : Int32).toInt = 255 := by decide
  omega
def own_b (x i : Int32) : Int32 := nar .byte ((nar .char (own_c x i)).toInt8.toInt32)
theorem own_b_ (x i : Int32) : own_b x i = (own_c x i).toInt8.toInt32 := by
  unfold own_b
  rw [own_cn]
  show ((own_c x i).toInt8.toInt32).toInt8.toInt32 = _
  rw [Int8.toInt8_toInt32]
theorem own_bi {x y i j : Int32} (h : own_b x i = own_b y j) : own_c x i = own_c y j := by
  rw [own_b_, own_b_] at h
  have h1 := c_i2b (own_c x i)
  have h2 := c_i2b (own_c y j)
  have r1 := own_cr x i
  have r2 := own_cr y j
  rw [h] at h1
  exact Int32.toInt_inj.mp (by omega)
def own_tx (x : Int32) : List Value := [.int (own_b x 0), .int (own_b x 1), .int (own_b x 2)]
theorem own_n3 (x n : Int32) (h : n = x &&& (3 : Int32)) : n = 0 ∨ n = 1 ∨ n = 2 ∨ n = 3 := by
  subst h
  have h := c_and x (3 : Int32) (by decide)
  have e0 : (0 : Int32).toInt = 0 := by decide
  have e1 : (1 : Int32).toInt = 1 := by decide
  have e2 : (2 : Int32).toInt = 2 := by decide
  have e3 : (3 : Int32).toInt = 3 := by decide
  rw [← Int32.toInt_inj, ← Int32.toInt_inj, ← Int32.toInt_inj, ← Int32.toInt_inj]
  omega
theorem own_txN {Z : State} {h : Heap} {b : Addr} {k : ClassId} {z x : Int32} {us : List Value} (q : z = x &&& (3 : Int32)) (e : us = (own_tx x).take z.toNatClampNeg) (F : Arv Z h b k .byte z us (.int (0 : Int32))) : Arv Z h b k .byte (x &&& (3 : Int32)) (own_tx x) (.int (0 : Int32)) := by
  subst q e
  obtain ⟨c, A, q, S, M, H, G⟩ := F
  have key : ∀ i, i < c.slots.size → ((own_tx x).take (x &&& (3 : Int32)).toNatClampNeg).getD i (.int (0 : Int32)) = (own_tx x).getD i (.int (0 : Int32)) := fun i hi => by
    rw [S] at hi
    rw [List.getD_eq_getElem?_getD, List.getD_eq_getElem?_getD, List.getElem?_take_of_lt hi]
  exact ⟨c, A, q, S, M, fun i hi => by rw [← key i hi]; exact H i hi, fun i hi => by rw [← key i hi]; exact G i hi⟩
theorem own_d8_0 : decode jdk_52_method_21_code 0 = .ok (.iconst 0, 1) := by decide +kernel
theorem own_d8_1 : decode jdk_52_method_21_code 1 = .ok (.istore 5, 2) := by decide +kernel
theorem own_d8_3 : decode jdk_52_method_21_code 3 = .ok (.iload 5, 2) := by decide +kernel
theorem own_d8_5 : decode jdk_52_method_21_code 5 = .ok (.iload 4, 2) := by decide +kernel
theorem own_d8_7 : decode jdk_52_method_21_code 7 = .ok (.if_icmp .ge 37, 3) := by decide +kernel
theorem own_d8_10 : decode jdk_52_method_21_code 10 = .ok (.aload_n 0, 1) := by decide +kernel
theorem own_d8_11 : decode jdk_52_method_21_code 11 = .ok (.iload_n 1, 1) := by decide +kernel
theorem own_d8_12 : decode jdk_52_method_21_code 12 = .ok (.caload, 1) := by decide +kernel
theorem own_d8_13 : decode jdk_52_method_21_code 13 = .ok (.istore 6, 2) := by decide +kernel
theorem own_d8_15 : decode jdk_52_method_21_code 15 = .ok (.iload 6, 2) := by decide +kernel
theorem own_d8_17 : decode jdk_52_method_21_code 17 = .ok (.sipush 255, 3) := by decide +kernel
theorem own_d8_20 : decode jdk_52_method_21_code 20 = .ok (.if_icmp .le 6, 3) := by decide +kernel
theorem own_d8_26 : decode jdk_52_method_21_code 26 = .ok (.aload_n 2, 1) := by decide +kernel
theorem own_d8_27 : decode jdk_52_method_21_code 27 = .ok (.iload_n 3, 1) := by decide +kernel
theorem own_d8_28 : decode jdk_52_method_21_code 28 = .ok (.iload 6, 2) := by decide +kernel
theorem own_d8_30 : decode jdk_52_method_21_code 30 = .ok (.i2b, 1) := by decide +kernel
theorem own_d8_31 : decode jdk_52_method_21_code 31 = .ok (.bastore, 1) := by decide +kernel
theorem own_d8_32 : decode jdk_52_method_21_code 32 = .ok (.iinc 1 1, 3) := by decide +kernel
theorem own_d8_35 : decode jdk_52_method_21_code 35 = .ok (.iinc 3 1, 3) := by decide +kernel
theorem own_d8_38 : decode jdk_52_method_21_code 38 = .ok (.iinc 5 1, 3) := by decide +kernel
theorem own_d8_41 : decode jdk_52_method_21_code 41 = .ok (.goto (-38), 3) := by decide +kernel
theorem own_d8_44 : decode jdk_52_method_21_code 44 = .ok (.iload 4, 2) := by decide +kernel
theorem own_d8_46 : decode jdk_52_method_21_code 46 = .ok (.ireturn, 1) := by decide +kernel
theorem own_pn0 : plainName "java/lang/StringUTF16" = true := by first | (simp [plainName, overriddenIn]; done) | decide +kernel
theorem own_cm5_1_ef (m : MethodId) (ca : Addr) (b : Addr) (kc : ClassId) (k : ClassId) (x0 : Int32) : entryFrame m #[(.ref ca), (.int (0 : Int32)), (.ref b), (.int (0 : Int32)), (.int (1 : Int32))] 7 = mkF m 0 #[.val (.ref ca), .val (.int (0 : Int32)), .val (.ref b), .val (.int (0 : Int32)), .val (.int (1 : Int32)), .unset, .unset] [] := by first | (simp [entryFrame, mkF, argsToLocals, Value.category]; done) | rfl
def own_cm5_1_Q (Z : State) (ca : Addr) (b : Addr) (kc : ClassId) (k : ClassId) (x0 : Int32) (h0 : Heap) (n0 : Nat) (v : Option Value) (h : Heap) (L : List Loc) : Prop := v = some (.int (1 : Int32)) ∧ Fr n0 L ∧ Keep h0 h [b] ∧ Arv Z h b k .byte (1 : Int32) [(.int (nar .byte (x0.toInt8.toInt32)))] (.int (0 : Int32))
set_option maxRecDepth 65536 in
set_option maxHeartbeats 40000000 in
theorem own_cm5_1 (l : Launch) (Z : State) (a0 : Array Value) (hw : ∀ d ∈ tables_1, d.before a0 Z = true) (ws : List Jvm.Cond) (ca : Addr) (b : Addr) (kc : ClassId) (k : ClassId) (x0 : Int32) (h0 : Heap) (n0 : Nat) (Z0 : n0 ≤ h0.size) (V_c : Arv Z h0 ca kc .char (1 : Int32) [(.int x0)] (.int (0 : Int32))) (V_b : Arv Z h0 b k .byte (1 : Int32) [(.int (0 : Int32))] (.int (0 : Int32))) (ne_cb : ca ≠ b) (g_b : n0 ≤ b) (le_x0 : ¬ (255 : Int32) < x0) :
    MetFree l (⟨"java/lang/StringUTF16", "compress", "([CI[BII)I"⟩ : MethodName) (head1 (Jvm.Cond.code (⟨"java/lang/StringUTF16", "compress", "([CI[BII)I"⟩ : MethodName) jdk_52_method_21_code 7 (some .int) :: ws) ({ frames := 0, cells := 0, slots := 0, locals := 0 } : Room)) (fun as_ U => as_ = #[(.ref ca), (.int (0 : Int32)), (.ref b), (.int (0 : Int32)), (.int (1 : Int32))] ∧ Z.Warmed39 U.vm ∧ U.heap = h0) (fun _ _ _ _ _ => True) (fun _ U_ o_ V_ => ∃ v_ L_, o_ = .returned v_ ∧ own_cm5_1_Q Z ca b kc k x0 h0 n0 v_ V_.heap L_ ∧ FrameEnd U_ o_ V_ L_ ({ frames := 0, cells := 0, slots := 0, locals := 0 } : Room).cells ({ frames := 0, cells := 0, slots := 0, locals := 0 } : Room).slots) := by
  refine MetFree.of_bodySF (plainFor_of_name own_pn0) hisR ?_
  intro p e s m args below meth c s₁ Bd hml0 hP hK
  obtain ⟨rfl, hZ, hh⟩ := hP
  have hx := Bd.exec
  have hby := Bd.bytes
  have hml : c.maxLocals = 7 := hml0
  have hown : s.vm.findClass "java/lang/StringUTF16" = some m.cls := findClass_of_methodNamed Bd.named
  have hnm := (name_of_methodNamed Bd.named Bd.method).1
  have X0 : Stand p l e ({ frames := 0, cells := 0, slots := 0, locals := 0 } : Room) s m #[(.ref ca), (.int (0 : Int32)), (.ref b), (.int (0 : Int32)), (.int (1 : Int32))] below meth c s₁ [] 0 0 := Stand.of_body Bd
  have e0 : s₁.heap = h0 := by rw [← hh, Bd.state]; rfl
  have N0 := Fr.nil n0
  refine own_begin (own_cm5_1_ef m ca b kc k x0) ?_
  show Ends p.tables e below (s₁.setTop (mkF m 0 #[.val (.ref ca), .val (.int (0 : Int32)), .val (.ref b), .val (.int (0 : Int32)), .val (.int (1 : Int32)), .unset, .unset] [])) _
  have Kr0 : Keep h0 h0 [b] := Keep.refl h0 _
  refine s_iconst (pc' := 1) X0.here hx (v := (0 : Int32)) (hb hby own_d8_0) rfl rfl ?_
  refine s_istore (pc' := 3) X0.here hx (l' := #[.val (.ref ca), .val (.int (0 : Int32)), .val (.ref b), .val (.int (0 : Int32)), .val (.int (1 : Int32)), .val (.int (0 : Int32)), .unset]) (hb hby own_d8_1) rfl rfl ?_
  refine s_iload (pc' := 5) X0.here hx (hb hby own_d8_3) rfl rfl ?_
  refine s_iload (pc' := 7) X0.here hx (hb hby own_d8_5) rfl rfl ?_
  have hk1 : (0 : Int32) < (1 : Int32) := by decide
  refine s_icmpNo (pc' := 10) X0.here hx (hb hby own_d8_7) (tlt hk1).2.1 rfl ?_
  refine s_aloadN (pc' := 11) X0.here hx (hb hby own_d8_10) rfl rfl rfl ?_
  refine s_iloadN (pc' := 12) X0.here hx (hb hby own_d8_11) rfl rfl ?_
  refine s_caload (pc' := 13) (v := (.int x0)) X0 hx hZ e0 V_c ⟨by decide, by decide⟩ rfl (hb hby own_d8_12) rfl ?_
  refine s_istore (pc' := 15) X0.here hx (l' := #[.val (.ref ca), .val (.int (0 : Int32)), .val (.ref b), .val (.int (0 : Int32)), .val (.int (1 : Int32)), .val (.int (0 : Int32)), .val (.int x0)]) (hb hby own_d8_13) rfl rfl ?_
  refine s_iload (pc' := 17) X0.here hx (hb hby own_d8_15) rfl rfl ?_
  refine s_sipush (pc' := 20) X0.here hx (v := (255 : Int32)) (hb hby own_d8_17) rfl rfl ?_
  have hk2 : ¬ ((255 : Int32) < x0) := le_x0
  refine s_icmpYes (pc' := 26) X0.here hx (hb hby own_d8_20) (flt hk2).2.2.2 (by decide) (by decide) ?_
  refine s_aloadN (pc' := 27) X0.here hx (hb hby own_d8_26) rfl rfl rfl ?_
  refine s_iloadN (pc' := 28) X0.here hx (hb hby own_d8_27) rfl rfl ?_
  refine s_iload (pc' := 30) X0.here hx (hb hby own_d8_28) rfl rfl ?_
  refine s_i2b (pc' := 31) X0.here hx (hb hby own_d8_30) rfl ?_
  refine s_putB (pc' := 32) X0 hx hZ e0 V_b ⟨by decide, by decide⟩ 0 rfl (Nat.le_of_ble_eq_true rfl) (hb hby own_d8_31) rfl fun T3 hp3 X3 e3 W3 Vw3 => ?_
  have V4 : Arv Z hp3 b k .byte (1 : Int32) [(.int (nar .byte (x0.toInt8.toInt32)))] (.int (0 : Int32)) := Vw3
  have N3 := Fr.snoc X3 N0 g_b
  have f5 := V_c.other W3 ne_cb
  have Z6 : n0 ≤ hp3.size := Nat.le_trans Z0 (Keep.of_wr W3).1
  have K7 : Keep h0 hp3 [b] := Kr0.wr W3 (Or.inl (List.mem_of_getElem? (i := 0) rfl))
  refine s_iinc (pc' := 35) X3.here hx (v := (1 : Int32)) (l' := #[.val (.ref ca), .val (.int ((0 : Int32) + (1 : Int32))), .val (.ref b), .val (.int (0 : Int32)), .val (.int (1 : Int32)), .val (.int (0 : Int32)), .val (.int x0)]) (hb hby own_d8_32) rfl rfl rfl rfl ?_
  refine s_iinc (pc' := 38) X3.here hx (v := (1 : Int32)) (l' := #[.val (.ref ca), .val (.int ((0 : Int32) + (1 : Int32))), .val (.ref b), .val (.int ((0 : Int32) + (1 : Int32))), .val (.int (1 : Int32)), .val (.int (0 : Int32)), .val (.int x0)]) (hb hby own_d8_35) rfl rfl rfl rfl ?_
  refine s_iinc (pc' := 41) X3.here hx (v := (1 : Int32)) (l' := #[.val (.ref ca), .val (.int ((0 : Int32) + (1 : Int32))), .val (.ref b), .val (.int ((0 : Int32) + (1 : Int32))), .val (.int (1 : Int32)), .val (.int ((0 : Int32) + (1 : Int32))), .val (.int x0)]) (hb hby own_d8_38) rfl rfl rfl rfl ?_
  refine s_goto (pc' := 3) X3.here hx (hb hby own_d8_41) (by decide) (by decide) ?_
  rw [show ((0 : Int32) + (1 : Int32)) = (1 : Int32) from by decide]
  refine s_iload (pc' := 5) X3.here hx (hb hby own_d8_3) rfl rfl ?_
  refine s_iload (pc' := 7) X3.here hx (hb hby own_d8_5) rfl rfl ?_
  have hk8 : ¬ ((1 : Int32) < (1 : Int32)) := by decide
  refine s_icmpYes (pc' := 44) X3.here hx (hb hby own_d8_7) (flt hk8).2.1 (by decide) (by decide) ?_
  refine s_iload (pc' := 46) X3.here hx (hb hby own_d8_44) rfl rfl ?_
  obtain ⟨fs, hr, hrun, hended, hW, hsame⟩ := X3.leave (v := some (.int (1 : Int32))) (fun h => by rw [Bd.returns] at h; cases h)
  refine ⟨_, _, retOut X3 hx Bd.returns rfl (Or.inl ⟨rfl, Or.inl rfl, _, rfl⟩) (hb hby own_d8_46) hr, hrun, hended, _, _, rfl, ?_, ⟨_, rfl⟩, hW, hsame.mono (by decide) (by decide)⟩
  show own_cm5_1_Q Z ca b kc k x0 h0 n0 _ T3.heap _
  rw [e3]
  exact ⟨rfl, N3, K7, V4⟩
theorem own_d7_0 : decode jdk_52_method_16_code 0 = .ok (.iload_n 2, 1) := by decide +kernel
theorem own_d7_1 : decode jdk_52_method_16_code 1 = .ok (.newarray .byte, 2) := by decide +kernel
theorem own_d7_3 : decode jdk_52_method_16_code 3 = .ok (.astore_n 3, 1) := by decide +kernel
theorem own_d7_4 : decode jdk_52_method_16_code 4 = .ok (.aload_n 0, 1) := by decide +kernel
theorem own_d7_5 : decode jdk_52_method_16_code 5 = .ok (.iload_n 1, 1) := by decide +kernel
theorem own_d7_6 : decode jdk_52_method_16_code 6 = .ok (.aload_n 3, 1) := by decide +kernel
theorem own_d7_7 : decode jdk_52_method_16_code 7 = .ok (.iconst 0, 1) := by decide +kernel
theorem own_d7_8 : decode jdk_52_method_16_code 8 = .ok (.iload_n 2, 1) := by decide +kernel
theorem own_d7_9 : decode jdk_52_method_16_code 9 = .ok (.invokestatic 115, 3) := by decide +kernel
theorem own_pd0 : parseMethodDescriptor "([CI[BII)I" = some ⟨[(.array .char), .int, (.array .byte), .int, .int], some .int⟩ := by decide +kernel
theorem own_d7_12 : decode jdk_52_method_16_code 12 = .ok (.istore 4, 2) := by decide +kernel
theorem own_d7_14 : decode jdk_52_method_16_code 14 = .ok (.iload 4, 2) := by decide +kernel
theorem own_d7_16 : decode jdk_52_method_16_code 16 = .ok (.iload_n 2, 1) := by decide +kernel
theorem own_d7_17 : decode jdk_52_method_16_code 17 = .ok (.if_icmp .eq 40, 3) := by decide +kernel
theorem own_d7_57 : decode jdk_52_method_16_code 57 = .ok (.aload_n 3, 1) := by decide +kernel
theorem own_d7_58 : decode jdk_52_method_16_code 58 = .ok (.areturn, 1) := by decide +kernel
theorem own_cm3_1_ef (m : MethodId) (ca : Addr) (kc : ClassId) (x0 : Int32) : entryFrame m #[(.ref ca), (.int (0 : Int32)), (.int (1 : Int32))] 6 = mkF m 0 #[.val (.ref ca), .val (.int (0 : Int32)), .val (.int (1 : Int32)), .unset, .unset, .unset] [] := by first | (simp [entryFrame, mkF, argsToLocals, Value.category]; done) | rfl
def own_cm3_1_Q (Z : State) (ca : Addr) (kc : ClassId) (x0 : Int32) (h0 : Heap) (n0 : Nat) (v : Option Value) (h : Heap) (L : List Loc) : Prop := ∃ b kb, v = some (.ref b) ∧ Fr n0 L ∧ Keep h0 h [] ∧ h0.size ≤ b ∧ Arv Z h b kb .byte (1 : Int32) [(.int (nar .byte (x0.toInt8.toInt32)))] (.int (0 : Int32))
set_option maxRecDepth 65536 in
set_option maxHeartbeats 40000000 in
theorem own_cm3_1 (l : Launch) (Z : State) (a0 : Array Value) (hw : ∀ d ∈ tables_1, d.before a0 Z = true) (ws : List Jvm.Cond) (ca : Addr) (kc : ClassId) (x0 : Int32) (h0 : Heap) (n0 : Nat) (Z0 : n0 ≤ h0.size) (V_c : Arv Z h0 ca kc .char (1 : Int32) [(.int x0)] (.int (0 : Int32))) (le_x0 : ¬ (255 : Int32) < x0) :
    MetFree l (⟨"java/lang/StringUTF16", "compress", "([CII)[B"⟩ : MethodName) (head1 (Jvm.Cond.code (⟨"java/lang/StringUTF16", "compress", "([CII)[B"⟩ : MethodName) jdk_52_method_16_code 6 (some (.array .byte)) :: ws) ({ frames := 1, cells := 1, slots := 1, locals := 18 } : Room)) (fun as_ U => as_ = #[(.ref ca), (.int (0 : Int32)), (.int (1 : Int32))] ∧ Z.Warmed39 U.vm ∧ U.heap = h0) (fun _ _ _ _ _ => True) (fun _ U_ o_ V_ => ∃ v_ L_, o_ = .returned v_ ∧ own_cm3_1_Q Z ca kc x0 h0 n0 v_ V_.heap L_ ∧ FrameEnd U_ o_ V_ L_ ({ frames := 1, cells := 1, slots := 1, locals := 18 } : Room).cells ({ frames := 1, cells := 1, slots := 1, locals := 18 } : Room).slots) := by
  refine MetFree.of_bodySF (plainFor_of_name own_pn0) hisR ?_
  intro p e s m args below meth c s₁ Bd hml0 hP hK
  obtain ⟨rfl, hZ, hh⟩ := hP
  have hx := Bd.exec
  have hby := Bd.bytes
  have hml : c.maxLocals = 6 := hml0
  have hown : s.vm.findClass "java/lang/StringUTF16" = some m.cls := findClass_of_methodNamed Bd.named
  have hnm := (name_of_methodNamed Bd.named Bd.method).1
  have X0 : Stand p l e ({ frames := 1, cells := 1, slots := 1, locals := 18 } : Room) s m #[(.ref ca), (.int (0 : Int32)), (.int (1 : Int32))] below meth c s₁ [] 0 0 := Stand.of_body Bd
  have e0 : s₁.heap = h0 := by rw [← hh, Bd.state]; rfl
  have N0 := Fr.nil n0
  refine own_begin (own_cm3_1_ef m ca kc x0) ?_
  show Ends p.tables e below (s₁.setTop (mkF m 0 #[.val (.ref ca), .val (.int (0 : Int32)), .val (.int (1 : Int32)), .unset, .unset, .unset] [])) _
  have Kr0 : Keep h0 h0 [] := Keep.refl h0 _
  refine s_iloadN (pc' := 1) X0.here hx (hb hby own_d7_0) rfl rfl ?_
  refine s_newP (pc' := 3) (cap := 1) X0 hx hZ (hw _ (List.mem_of_getElem? (i := 25) rfl)) e0 (hb hby own_d7_1) (by decide) (by decide) (by decide) (by decide) (by decide) rfl fun T1 hp1 X1 e1 ka1 E1 b gq1 A1 => ?_
  have g_b : n0 ≤ b := Nat.le_trans Z0 (Nat.le_of_eq gq1.symm)
  have sz_b : h0.size ≤ b := Nat.le_trans Kr0.1 (Nat.le_of_eq gq1.symm)
  have ne2 : ca ≠ b := Nat.ne_of_lt (Nat.lt_of_lt_of_le V_c.lt (Nat.le_of_eq gq1.symm))
  have f3 := V_c.ext E1
  have Z4 : n0 ≤ hp1.size := Nat.le_trans Z0 E1.1
  have K5 : Keep h0 hp1 [] := Kr0.ext E1
  have V6 : Arv Z hp1 b ka1 .byte (1 : Int32) [(.int (0 : Int32))] (.int (0 : Int32)) := (Arv.new A1 (by decide)).pad (pad_rep [] (.int (0 : Int32)) 1)
  refine s_astoreN (pc' := 4) X1.here hx (l' := #[.val (.ref ca), .val (.int (0 : Int32)), .val (.int (1 : Int32)), .val (.ref b), .unset, .unset]) (hb hby own_d7_3) rfl rfl rfl ?_
  refine s_aloadN (pc' := 5) X1.here hx (hb hby own_d7_4) rfl rfl rfl ?_
  refine s_iloadN (pc' := 6) X1.here hx (hb hby own_d7_5) rfl rfl ?_
  refine s_aloadN (pc' := 7) X1.here hx (hb hby own_d7_6) rfl rfl rfl ?_
  refine s_iconst (pc' := 8) X1.here hx (v := (0 : Int32)) (hb hby own_d7_7) rfl rfl ?_
  refine s_iloadN (pc' := 9) X1.here hx (hb hby own_d7_8) rfl rfl ?_
  refine s_callS (pc' := 12) (W := 0) X1 hx hZ  hown (hw _ (List.mem_of_getElem? (i := 40) rfl)) (hw _ (List.mem_of_getElem? (i := 41) rfl)) (hw _ (List.mem_of_getElem? (i := 38) rfl)) (hw _ (List.mem_of_getElem? (i := 42) rfl)) (by decide) e1 (own_cm5_1 l Z a0 hw [] ca b kc ka1 x0 hp1 n0 Z4 f3 V6 ne2 g_b le_x0) (by rw [hml]; rfl) [(.ref ca), (.int (0 : Int32)), (.ref b), (.int (0 : Int32)), (.int (1 : Int32))] [] rfl (lenOf own_pd0 rfl) rfl (Nat.le_of_eq rfl) (by decide) (by decide) (by decide) (by decide) rfl (hb hby own_d7_9) fun T7 v7 Lc7 X7 hQ7 => ?_
  obtain ⟨rfl, Nq7, Kq7, Vb⟩ := hQ7
  have N7 := Fr.app N0 Nq7
  have f8 := f3.keep Kq7 (ninS ne2 nin0)
  have Z9 : n0 ≤ T7.heap.size := Nat.le_trans Z4 Kq7.1
  have K10 : Keep h0 T7.heap [] := K5.trans Kq7 (allS (Or.inr sz_b) all0)
  show Ends p.tables e below (T7.setTop (mkF m 12 #[.val (.ref ca), .val (.int (0 : Int32)), .val (.int (1 : Int32)), .val (.ref b), .unset, .unset] [(.int (1 : Int32))])) _
  refine s_istore (pc' := 14) X7.here hx (l' := #[.val (.ref ca), .val (.int (0 : Int32)), .val (.int (1 : Int32)), .val (.ref b), .val (.int (1 : Int32)), .unset]) (hb hby own_d7_12) rfl rfl ?_
  refine s_iload (pc' := 16) X7.here hx (hb hby own_d7_14) rfl rfl ?_
  refine s_iloadN (pc' := 17) X7.here hx (hb hby own_d7_16) rfl rfl ?_
  have hk11 : (1 : Int32) = (1 : Int32) := rfl
  refine s_icmpYes (pc' := 57) X7.here hx (hb hby own_d7_17) (teq hk11).1 (by decide) (by decide) ?_
  refine s_aloadN (pc' := 58) X7.here hx (hb hby own_d7_57) rfl rfl rfl ?_
  obtain ⟨fs, hr, hrun, hended, hW, hsame⟩ := X7.leave (v := some (.ref b)) (fun h => by rw [Bd.returns] at h; cases h)
  refine ⟨_, _, retOut X7 hx Bd.returns rfl (Or.inr (Or.inr (Or.inr (Or.inr ⟨rfl, rfl, rfl⟩)))) (hb hby own_d7_58) hr, hrun, hended, _, _, rfl, ?_, ⟨_, rfl⟩, hW, hsame.mono (by decide) (by decide)⟩
  show own_cm3_1_Q Z ca kc x0 h0 n0 _ T7.heap _
  exact ⟨b, ka1, rfl, N7, K10, sz_b, Vb⟩
theorem own_d9_0 : decode jdk_52_method_15_code 0 = .ok (.iload_n 1, 1) := by decide +kernel
theorem own_d9_1 : decode jdk_52_method_15_code 1 = .ok (.aload_n 0, 1) := by decide +kernel
theorem own_d9_2 : decode jdk_52_method_15_code 2 = .ok (.arraylength, 1) := by decide +kernel
theorem own_d9_3 : decode jdk_52_method_15_code 3 = .ok (.isub, 1) := by decide +kernel
theorem own_d9_4 : decode jdk_52_method_15_code 4 = .ok (.bipush 31, 2) := by decide +kernel
theorem own_d9_6 : decode jdk_52_method_15_code 6 = .ok (.iushr, 1) := by decide +kernel
theorem own_d9_7 : decode jdk_52_method_15_code 7 = .ok (.i2b, 1) := by decide +kernel
theorem own_d9_8 : decode jdk_52_method_15_code 8 = .ok (.ireturn, 1) := by decide +kernel
theorem own_cfl_1_ef (m : MethodId) (b : Addr) (k : ClassId) (vs : List Value) : entryFrame m #[(.ref b), (.int (1 : Int32))] 2 = mkF m 0 #[.val (.ref b), .val (.int (1 : Int32))] [] := by first | (simp [entryFrame, mkF, argsToLocals, Value.category]; done) | rfl
def own_cfl_1_Q (Z : State) (b : Addr) (k : ClassId) (vs : List Value) (h0 : Heap) (n0 : Nat) (v : Option Value) (h : Heap) (L : List Loc) : Prop := v = some (.int 0) ∧ Fr n0 L ∧ h = h0
set_option maxRecDepth 65536 in
set_option maxHeartbeats 40000000 in
theorem own_cfl_1 (l : Launch) (Z : State) (a0 : Array Value) (hw : ∀ d ∈ tables_1, d.before a0 Z = true) (ws : List Jvm.Cond) (b : Addr) (k : ClassId) (vs : List Value) (h0 : Heap) (n0 : Nat) (Z0 : n0 ≤ h0.size) (V_b : Arv Z h0 b k .byte (1 : Int32) vs (.int (0 : Int32))) :
    MetFree l (⟨"java/lang/StringUTF16", "coderFromArrayLen", "([BI)B"⟩ : MethodName) (head1 (Jvm.Cond.code (⟨"java/lang/StringUTF16", "coderFromArrayLen", "([BI)B"⟩ : MethodName) jdk_52_method_15_code 2 (some .byte) :: ws) ({ frames := 0, cells := 0, slots := 0, locals := 0 } : Room)) (fun as_ U => as_ = #[(.ref b), (.int (1 : Int32))] ∧ Z.Warmed39 U.vm ∧ U.heap = h0) (fun _ _ _ _ _ => True) (fun _ U_ o_ V_ => ∃ v_ L_, o_ = .returned v_ ∧ own_cfl_1_Q Z b k vs h0 n0 v_ V_.heap L_ ∧ FrameEnd U_ o_ V_ L_ ({ frames := 0, cells := 0, slots := 0, locals := 0 } : Room).cells ({ frames := 0, cells := 0, slots := 0, locals := 0 } : Room).slots) := by
  refine MetFree.of_bodySF (plainFor_of_name own_pn0) hisR ?_
  intro p e s m args below meth c s₁ Bd hml0 hP hK
  obtain ⟨rfl, hZ, hh⟩ := hP
  have hx := Bd.exec
  have hby := Bd.bytes
  have hml : c.maxLocals = 2 := hml0
  have hown : s.vm.findClass "java/lang/StringUTF16" = some m.cls := findClass_of_methodNamed Bd.named
  have hnm := (name_of_methodNamed Bd.named Bd.method).1
  have X0 : Stand p l e ({ frames := 0, cells := 0, slots := 0, locals := 0 } : Room) s m #[(.ref b), (.int (1 : Int32))] below meth c s₁ [] 0 0 := Stand.of_body Bd
  have e0 : s₁.heap = h0 := by rw [← hh, Bd.state]; rfl
  have N0 := Fr.nil n0
  refine own_begin (own_cfl_1_ef m b k vs) ?_
  show Ends p.tables e below (s₁.setTop (mkF m 0 #[.val (.ref b), .val (.int (1 : Int32))] [])) _
  refine s_iloadN (pc' := 1) X0.here hx (hb hby own_d9_0) rfl rfl ?_
  refine s_aloadN (pc' := 2) X0.here hx (hb hby own_d9_1) rfl rfl rfl ?_
  refine s_arraylength (pc' := 3) X0 hx hZ e0 V_b (hb hby own_d9_2) rfl ?_
  refine s_isub (pc' := 4) X0.here hx (hb hby own_d9_3) rfl ?_
  refine s_bipush (pc' := 6) X0.here hx (v := (31 : Int32)) (hb hby own_d9_4) rfl rfl ?_
  refine s_iushr (pc' := 7) X0.here hx (hb hby own_d9_6) rfl ?_
  refine s_i2b (pc' := 8) X0.here hx (hb hby own_d9_7) rfl ?_
  obtain ⟨fs, hr, hrun, hended, hW, hsame⟩ := X0.leave (v := some (.int (0 : Int32))) (fun h => by rw [Bd.returns] at h; cases h)
  refine ⟨_, _, retN X0 hx (t := .byte) Bd.returns (by simp) (hb hby own_d9_8) hr, hrun, hended, _, _, rfl, ?_, ⟨_, rfl⟩, hW, hsame.mono (by decide) (by decide)⟩
  show own_cfl_1_Q Z b k vs h0 n0 _ s₁.heap _
  rw [e0]
  exact ⟨rfl, N0, rfl⟩
theorem own_d4_0 : decode jdk_42_method_149_code 0 = .ok (.aload_n 0, 1) := by decide +kernel
theorem own_d4_1 : decode jdk_42_method_149_code 1 = .ok (.invokespecial 1, 3) := by decide +kernel
theorem own_d4_4 : decode jdk_42_method_149_code 4 = .ok (.iload_n 3, 1) := by decide +kernel
theorem own_d4_5 : decode jdk_42_method_149_code 5 = .ok (.ifCond .ne 22, 3) := by decide +kernel
theorem own_d4_27 : decode jdk_42_method_149_code 27 = .ok (.getstatic 38, 3) := by decide +kernel
theorem own_d4_30 : decode jdk_42_method_149_code 30 = .ok (.ifCond .eq 28, 3) := by decide +kernel
theorem own_d4_33 : decode jdk_42_method_149_code 33 = .ok (.aload_n 1, 1) := by decide +kernel
theorem own_d4_34 : decode jdk_42_method_149_code 34 = .ok (.iload_n 2, 1) := by decide +kernel
theorem own_d4_35 : decode jdk_42_method_149_code 35 = .ok (.iload_n 3, 1) := by decide +kernel
theorem own_d4_36 : decode jdk_42_method_149_code 36 = .ok (.invokestatic 177, 3) := by decide +kernel
theorem own_pd1 : parseMethodDescriptor "([CII)[B" = some ⟨[(.array .char), .int, .int], some (.array .byte)⟩ := by decide +kernel
theorem own_d4_39 : decode jdk_42_method_149_code 39 = .ok (.astore 5, 2) := by decide +kernel
theorem own_d4_41 : decode jdk_42_method_149_code 41 = .ok (.aload_n 0, 1) := by decide +kernel
theorem own_d4_42 : decode jdk_42_method_149_code 42 = .ok (.aload 5, 2) := by decide +kernel
theorem own_d4_44 : decode jdk_42_method_149_code 44 = .ok (.iload_n 3, 1) := by decide +kernel
theorem own_d4_45 : decode jdk_42_method_149_code 45 = .ok (.invokestatic 47, 3) := by decide +kernel
theorem own_pd2 : parseMethodDescriptor "([BI)B" = some ⟨[(.array .byte), .int], some .byte⟩ := by decide +kernel
theorem own_d4_48 : decode jdk_42_method_149_code 48 = .ok (.putfield 15, 3) := by decide +kernel
theorem own_d4_51 : decode jdk_42_method_149_code 51 = .ok (.aload_n 0, 1) := by decide +kernel
theorem own_d4_52 : decode jdk_42_method_149_code 52 = .ok (.aload 5, 2) := by decide +kernel
theorem own_d4_54 : decode jdk_42_method_149_code 54 = .ok (.putfield 9, 3) := by decide +kernel
theorem own_d4_57 : decode jdk_42_method_149_code 57 = .ok (.return_, 1) := by decide +kernel
theorem own_pn1 : plainName "java/lang/String" = true := by first | (simp [plainName, overriddenIn]; done) | decide +kernel
theorem own_si4_1_ef (m : MethodId) (a : Addr) (ca : Addr) (kc : ClassId) (cs : Int32) (x0 : Int32) : entryFrame m #[(.ref a), (.ref ca), (.int (0 : Int32)), (.int (1 : Int32)), .null] 6 = mkF m 0 #[.val (.ref a), .val (.ref ca), .val (.int (0 : Int32)), .val (.int (1 : Int32)), .val .null, .unset] [] := by first | (simp [entryFrame, mkF, argsToLocals, Value.category]; done) | rfl
def own_si4_1_Q (Z : State) (a : Addr) (ca : Addr) (kc : ClassId) (cs : Int32) (x0 : Int32) (h0 : Heap) (n0 : Nat) (v : Option Value) (h : Heap) (L : List Loc) : Prop := ∃ b kb, v = none ∧ Fr n0 L ∧ Keep h0 h [a] ∧ h0.size ≤ b ∧ Exa Z h a "java/lang/String" ∧ Fld Z h a "java/lang/String" "coder" "B" (.int (0 : Int32)) ∧ Fld Z h a "java/lang/String" "value" "[B" (.ref b) ∧ Arv Z h b kb .byte (1 : Int32) [(.int (nar .byte (x0.toInt8.toInt32)))] (.int (0 : Int32))
set_option maxRecDepth 65536 in
set_option maxHeartbeats 40000000 in
theorem own_si4_1 (l : Launch) (Z : State) (a0 : Array Value) (hw : ∀ d ∈ tables_1, d.before a0 Z = true) (ws : List Jvm.Cond) (a : Addr) (ca : Addr) (kc : ClassId) (cs : Int32) (x0 : Int32) (h0 : Heap) (n0 : Nat) (Z0 : n0 ≤ h0.size) (O0 : Old Z n0 h0) (S_cs : Sta Z Z.heap "java/lang/String" "COMPACT_STRINGS" "Z" (.int cs)) (hcs : ¬ cs = (0 : Int32)) (F_v : Fld Z h0 a "java/lang/String" "value" "[B" .null) (F_c : Fld Z h0 a "java/lang/String" "coder" "B" (.int (0 : Int32))) (E_a : Exa Z h0 a "java/lang/String") (g_a : n0 ≤ a) (V_c : Arv Z h0 ca kc .char (1 : Int32) [(.int x0)] (.int (0 : Int32))) (le_x0 : ¬ (255 : Int32) < x0) :
    MetFree l (⟨"java/lang/String", "<init>", "([CIILjava/lang/Void;)V"⟩ : MethodName) (head1 (Jvm.Cond.code (⟨"java/lang/String", "<init>", "([CIILjava/lang/Void;)V"⟩ : MethodName) jdk_42_method_149_code 6 none :: ws) ({ frames := 2, cells := 1, slots := 1, locals := 35 } : Room)) (fun as_ U => as_ = #[(.ref a), (.ref ca), (.int (0 : Int32)), (.int (1 : Int32)), .null] ∧ Z.Warmed39 U.vm ∧ U.heap = h0) (fun _ _ _ _ _ => True) (fun _ U_ o_ V_ => ∃ v_ L_, o_ = .returned v_ ∧ own_si4_1_Q Z a ca kc cs x0 h0 n0 v_ V_.heap L_ ∧ FrameEnd U_ o_ V_ L_ ({ frames := 2, cells := 1, slots := 1, locals := 35 } : Room).cells ({ frames := 2, cells := 1, slots := 1, locals := 35 } : Room).slots) := by
  refine MetFree.of_bodySF (plainFor_of_name own_pn1) hisR ?_
  intro p e s m args below meth c s₁ Bd hml0 hP hK
  obtain ⟨rfl, hZ, hh⟩ := hP
  have hx := Bd.exec
  have hby := Bd.bytes
  have hml : c.maxLocals = 6 := hml0
  have hown : s.vm.findClass "java/lang/String" = some m.cls := findClass_of_methodNamed Bd.named
  have hnm := (name_of_methodNamed Bd.named Bd.method).1
  have X0 : Stand p l e ({ frames := 2, cells := 1, slots := 1, locals := 35 } : Room) s m #[(.ref a), (.ref ca), (.int (0 : Int32)), (.int (1 : Int32)), .null] below meth c s₁ [] 0 0 := Stand.of_body Bd
  have e0 : s₁.heap = h0 := by rw [← hh, Bd.state]; rfl
  have N0 := Fr.nil n0
  refine own_begin (own_si4_1_ef m a ca kc cs x0) ?_
  show Ends p.tables e below (s₁.setTop (mkF m 0 #[.val (.ref a), .val (.ref ca), .val (.int (0 : Int32)), .val (.int (1 : Int32)), .val .null, .unset] [])) _
  have Kr0 : Keep h0 h0 [a] := Keep.refl h0 _
  refine s_aloadN (pc' := 1) X0.here hx (hb hby own_d4_0) rfl rfl rfl ?_
  refine s_initO (pc' := 4) (W := 0) X0 hx hZ hown (hw _ (List.mem_of_getElem? (i := 21) rfl)) (hw _ (List.mem_of_getElem? (i := 22) rfl)) (hw _ (List.mem_of_getElem? (i := 23) rfl)) e0 (by rw [hml]; rfl) (hb hby own_d4_1) (by decide) (Nat.le_of_eq rfl) (by decide) rfl fun T1 X1 e1 => ?_
  refine s_iloadN (pc' := 5) X1.here hx (hb hby own_d4_4) rfl rfl ?_
  have hk2 : ¬ ((1 : Int32) = (0 : Int32)) := by decide
  refine s_ifYes (pc' := 27) X1.here hx (hb hby own_d4_5) ((if0 _ _).trans (feq hk2).2) (by decide) (by decide) ?_
  refine s_getS (pc' := 30) X1 hx hZ hown (host := "") (Or.inl (hw _ (List.mem_of_getElem? (i := 35) rfl))) Via.refl e1 (S_cs.ext O0.2) (hb hby own_d4_27) rfl fun T3 X3 e3 => ?_
  have hk4 : ¬ (cs = (0 : Int32)) := hcs
  refine s_ifNo (pc' := 33) X3.here hx (hb hby own_d4_30) ((if0 _ _).trans (feq hk4).1) rfl ?_
  refine s_aloadN (pc' := 34) X3.here hx (hb hby own_d4_33) rfl rfl rfl ?_
  refine s_iloadN (pc' := 35) X3.here hx (hb hby own_d4_34) rfl rfl ?_
  refine s_iloadN (pc' := 36) X3.here hx (hb hby own_d4_35) rfl rfl ?_
  refine s_callS (pc' := 39) (W := 0) X3 hx hZ  hown (hw _ (List.mem_of_getElem? (i := 36) rfl)) (hw _ (List.mem_of_getElem? (i := 37) rfl)) (hw _ (List.mem_of_getElem? (i := 38) rfl)) (hw _ (List.mem_of_getElem? (i := 39) rfl)) (by decide) e3 (own_cm3_1 l Z a0 hw [] ca kc x0 h0 n0 Z0 V_c le_x0) (by rw [hml]; rfl) [(.ref ca), (.int (0 : Int32)), (.int (1 : Int32))] [] rfl (lenOf own_pd1 rfl) rfl (Nat.le_of_eq rfl) (by decide) (by decide) (by decide) (by decide) rfl (hb hby own_d4_36) fun T5 v5 Lc5 X5 hQ5 => ?_
  obtain ⟨b, kb, rfl, Nq5, Kq5, szb, Vb⟩ := hQ5
  have g_b : n0 ≤ b := Nat.le_trans Z0 szb
  have sz_b : h0.size ≤ b := Nat.le_trans Kr0.1 szb
  have ne6 : a ≠ b := Nat.ne_of_lt (Nat.lt_of_lt_of_le F_v.lt szb)
  have ne7 : ca ≠ b := Nat.ne_of_lt (Nat.lt_of_lt_of_le V_c.lt szb)
  have O8 := O0.keep Kq5 all0
  have N5 := Fr.app N0 Nq5
  have f9 := F_v.keep Kq5 nin0
  have f10 := F_c.keep Kq5 nin0
  have f11 := E_a.keep Kq5
  have f12 := V_c.keep Kq5 nin0
  have Z13 : n0 ≤ T5.heap.size := Nat.le_trans Z0 Kq5.1
  have K14 : Keep h0 T5.heap [a] := Kr0.trans Kq5 all0
  show Ends p.tables e below (T5.setTop (mkF m 39 #[.val (.ref a), .val (.ref ca), .val (.int (0 : Int32)), .val (.int (1 : Int32)), .val .null, .unset] [(.ref b)])) _
  refine s_astore (pc' := 41) X5.here hx (l' := #[.val (.ref a), .val (.ref ca), .val (.int (0 : Int32)), .val (.int (1 : Int32)), .val .null, .val (.ref b)]) (hb hby own_d4_39) rfl rfl rfl ?_
  refine s_aloadN (pc' := 42) X5.here hx (hb hby own_d4_41) rfl rfl rfl ?_
  refine s_aload (pc' := 44) X5.here hx (hb hby own_d4_42) rfl rfl rfl ?_
  refine s_iloadN (pc' := 45) X5.here hx (hb hby own_d4_44) rfl rfl ?_
  refine s_callS (pc' := 48) (W := 1) X5 hx hZ  hown (hw _ (List.mem_of_getElem? (i := 43) rfl)) (hw _ (List.mem_of_getElem? (i := 44) rfl)) (hw _ (List.mem_of_getElem? (i := 38) rfl)) (hw _ (List.mem_of_getElem? (i := 45) rfl)) (by decide) rfl (own_cfl_1 l Z a0 hw [] b kb [(.int (nar .byte (x0.toInt8.toInt32)))] T5.heap n0 Z13 Vb) (by rw [hml]; rfl) [(.ref b), (.int (1 : Int32))] [(.ref a)] rfl (lenOf own_pd2 rfl) rfl (Nat.le_of_eq rfl) (by decide) (by decide) (by decide) (by decide) rfl (hb hby own_d4_45) fun T15 v15 Lc15 X15 hQ15 => ?_
  obtain ⟨rfl, Nq15, eh15⟩ := hQ15
  have N15 := Fr.app N5 Nq15
  show Ends p.tables e below (T15.setTop (mkF m 48 #[.val (.ref a), .val (.ref ca), .val (.int (0 : Int32)), .val (.int (1 : Int32)), .val .null, .val (.ref b)] [(.int (0 : Int32)), (.ref a)])) _
  refine s_putFN (pc' := 51) (v' := (.int (0 : Int32))) (ty := .byte) X15 hx hZ hown (hw _ (List.mem_of_getElem? (i := 31) rfl)) Via.refl eh15 f10 f11 (Or.inr ⟨(hw _ (List.mem_of_getElem? (i := 27) rfl)), rfl, hnm⟩) (hw _ (List.mem_of_getElem? (i := 12) rfl)) (by decide) rfl rfl (hb hby own_d4_48) rfl fun T16 hp16 X16 e16 W16 => ?_
  have N16 := Fr.snoc X16 N15 g_a
  have O17 := O8.wr W16 g_a
  have f18 := f9.other W16 (Or.inr (slot_ne (Or.inr (hw _ (List.mem_of_getElem? (i := 26) rfl))) (Or.inr (hw _ (List.mem_of_getElem? (i := 27) rfl))) (by decide) (t := (.array .byte)) (t' := .byte) (by decide) (by decide)))
  have f19 := f10.same W16
  have f20 := f11.wr W16
  have f21 := Vb.other W16 (Ne.symm ne6)
  have Z22 : n0 ≤ hp16.size := Nat.le_trans Z13 (Keep.of_wr W16).1
  have K23 : Keep h0 hp16 [a] := K14.wr W16 (Or.inl (List.mem_of_getElem? (i := 0) rfl))
  refine s_aloadN (pc' := 52) X16.here hx (hb hby own_d4_51) rfl rfl rfl ?_
  refine s_aload (pc' := 54) X16.here hx (hb hby own_d4_52) rfl rfl rfl ?_
  refine s_putF (pc' := 57) (ty := (.array .byte)) X16 hx hZ hown (host := "") (Or.inl (hw _ (List.mem_of_getElem? (i := 30) rfl))) Via.refl e16 f18 f20 (Or.inr ⟨(hw _ (List.mem_of_getElem? (i := 26) rfl)), rfl, hnm⟩) (hw _ (List.mem_of_getElem? (i := 12) rfl)) (by decide) rfl rfl (hb hby own_d4_54) rfl fun T24 hp24 X24 e24 W24 => ?_
  have N24 := Fr.snoc X24 N16 g_a
  have O25 := O17.wr W24 g_a
  have f26 := f18.same W24
  have f27 := f19.other W24 (Or.inr (slot_ne (Or.inr (hw _ (List.mem_of_getElem? (i := 27) rfl))) (Or.inr (hw _ (List.mem_of_getElem? (i := 26) rfl))) (by decide) (t := .byte) (t' := (.array .byte)) (by decide) (by decide)))
  have f28 := f20.wr W24
  have f29 := f21.other W24 (Ne.symm ne6)
  have Z30 : n0 ≤ hp24.size := Nat.le_trans Z22 (Keep.of_wr W24).1
  have K31 : Keep h0 hp24 [a] := K23.wr W24 (Or.inl (List.mem_of_getElem? (i := 0) rfl))
  obtain ⟨fs, hr, hrun, hended, hW, hsame⟩ := X24.leave (v := none) (fun _ => rfl)
  refine ⟨_, _, X24.returnOut hx Bd.returns (hb hby own_d4_57) hr, hrun, hended, _, _, rfl, ?_, ⟨_, rfl⟩, hW, hsame.mono (by decide) (by decide)⟩
  show own_si4_1_Q Z a ca kc cs x0 h0 n0 _ T24.heap _
  rw [e24]
  exact ⟨b, kb, rfl, N24, K31, sz_b, f28, f27, f26, f29⟩
theorem own_d3_0 : decode jdk_42_method_3_code 0 = .ok (.aload_n 0, 1) := by decide +kernel
theorem own_d3_1 : decode jdk_42_method_3_code 1 = .ok (.aload_n 1, 1) := by decide +kernel
theorem own_d3_2 : decode jdk_42_method_3_code 2 = .ok (.iconst 0, 1) := by decide +kernel
theorem own_d3_3 : decode jdk_42_method_3_code 3 = .ok (.aload_n 1, 1) := by decide +kernel
theorem own_d3_4 : decode jdk_42_method_3_code 4 = .ok (.arraylength, 1) := by decide +kernel
theorem own_d3_5 : decode jdk_42_method_3_code 5 = .ok (.aconst_null, 1) := by decide +kernel
theorem own_d3_6 : decode jdk_42_method_3_code 6 = .ok (.invokespecial 27, 3) := by decide +kernel
theorem own_pd3 : parseMethodDescriptor "([CIILjava/lang/Void;)V" = some ⟨[(.array .char), .int, .int, (.object "java/lang/Void")], none⟩ := by decide +kernel
theorem own_d3_9 : decode jdk_42_method_3_code 9 = .ok (.return_, 1) := by decide +kernel
theorem own_si1_1_ef (m : MethodId) (a : Addr) (ca : Addr) (kc : ClassId) (cs : Int32) (x0 : Int32) : entryFrame m #[(.ref a), (.ref ca)] 2 = mkF m 0 #[.val (.ref a), .val (.ref ca)] [] := by first | (simp [entryFrame, mkF, argsToLocals, Value.category]; done) | rfl
def own_si1_1_Q (Z : State) (a : Addr) (ca : Addr) (kc : ClassId) (cs : Int32) (x0 : Int32) (h0 : Heap) (n0 : Nat) (v : Option Value) (h : Heap) (L : List Loc) : Prop := ∃ b kb, v = none ∧ Fr n0 L ∧ Keep h0 h [a] ∧ h0.size ≤ b ∧ Exa Z h a "java/lang/String" ∧ Fld Z h a "java/lang/String" "coder" "B" (.int (0 : Int32)) ∧ Fld Z h a "java/lang/String" "value" "[B" (.ref b) ∧ Arv Z h b kb .byte (1 : Int32) [(.int (nar .byte (x0.toInt8.toInt32)))] (.int (0 : Int32))
set_option maxRecDepth 65536 in
set_option maxHeartbeats 40000000 in
theorem own_si1_1 (l : Launch) (Z : State) (a0 : Array Value) (hw : ∀ d ∈ tables_1, d.before a0 Z = true) (ws : List Jvm.Cond) (a : Addr) (ca : Addr) (kc : ClassId) (cs : Int32) (x0 : Int32) (h0 : Heap) (n0 : Nat) (Z0 : n0 ≤ h0.size) (O0 : Old Z n0 h0) (S_cs : Sta Z Z.heap "java/lang/String" "COMPACT_STRINGS" "Z" (.int cs)) (hcs : ¬ cs = (0 : Int32)) (F_v : Fld Z h0 a "java/lang/String" "value" "[B" .null) (F_c : Fld Z h0 a "java/lang/String" "coder" "B" (.int (0 : Int32))) (E_a : Exa Z h0 a "java/lang/String") (g_a : n0 ≤ a) (V_c : Arv Z h0 ca kc .char (1 : Int32) [(.int x0)] (.int (0 : Int32))) (le_x0 : ¬ (255 : Int32) < x0) :
    MetFree l (⟨"java/lang/String", "<init>", "([C)V"⟩ : MethodName) (head1 (Jvm.Cond.code (⟨"java/lang/String", "<init>", "([C)V"⟩ : MethodName) jdk_42_method_3_code 2 none :: ws) ({ frames := 3, cells := 1, slots := 1, locals := 52 } : Room)) (fun as_ U => as_ = #[(.ref a), (.ref ca)] ∧ Z.Warmed39 U.vm ∧ U.heap = h0) (fun _ _ _ _ _ => True) (fun _ U_ o_ V_ => ∃ v_ L_, o_ = .returned v_ ∧ own_si1_1_Q Z a ca kc cs x0 h0 n0 v_ V_.heap L_ ∧ FrameEnd U_ o_ V_ L_ ({ frames := 3, cells := 1, slots := 1, locals := 52 } : Room).cells ({ frames := 3, cells := 1, slots := 1, locals := 52 } : Room).slots) := by
  refine MetFree.of_bodySF (plainFor_of_name own_pn1) hisR ?_
  intro p e s m args below meth c s₁ Bd hml0 hP hK
  obtain ⟨rfl, hZ, hh⟩ := hP
  have hx := Bd.exec
  have hby := Bd.bytes
  have hml : c.maxLocals = 2 := hml0
  have hown : s.vm.findClass "java/lang/String" = some m.cls := findClass_of_methodNamed Bd.named
  have hnm := (name_of_methodNamed Bd.named Bd.method).1
  have X0 : Stand p l e ({ frames := 3, cells := 1, slots := 1, locals := 52 } : Room) s m #[(.ref a), (.ref ca)] below meth c s₁ [] 0 0 := Stand.of_body Bd
  have e0 : s₁.heap = h0 := by rw [← hh, Bd.state]; rfl
  have N0 := Fr.nil n0
  refine own_begin (own_si1_1_ef m a ca kc cs x0) ?_
  show Ends p.tables e below (s₁.setTop (mkF m 0 #[.val (.ref a), .val (.ref ca)] [])) _
  have Kr0 : Keep h0 h0 [a] := Keep.refl h0 _
  refine s_aloadN (pc' := 1) X0.here hx (hb hby own_d3_0) rfl rfl rfl ?_
  refine s_aloadN (pc' := 2) X0.here hx (hb hby own_d3_1) rfl rfl rfl ?_
  refine s_iconst (pc' := 3) X0.here hx (v := (0 : Int32)) (hb hby own_d3_2) rfl rfl ?_
  refine s_aloadN (pc' := 4) X0.here hx (hb hby own_d3_3) rfl rfl rfl ?_
  refine s_arraylength (pc' := 5) X0 hx hZ e0 V_c (hb hby own_d3_4) rfl ?_
  refine s_aconstNull (pc' := 6) X0.here hx (hb hby own_d3_5) rfl ?_
  refine s_callI (pc' := 9) (W := 0) X0 hx hZ  rfl hown (hw _ (List.mem_of_getElem? (i := 17) rfl)) (hw _ (List.mem_of_getElem? (i := 18) rfl)) (hw _ (List.mem_of_getElem? (i := 13) rfl)) (hw _ (List.mem_of_getElem? (i := 20) rfl)) (by decide) e0 (own_si4_1 l Z a0 hw [] a ca kc cs x0 h0 n0 Z0 O0 S_cs hcs F_v F_c E_a g_a V_c le_x0) a (by rw [hml]; rfl) [(.ref ca), (.int (0 : Int32)), (.int (1 : Int32)), .null] [] rfl (lenOf own_pd3 rfl) rfl (Nat.le_of_eq rfl) (by decide) (by decide) (by decide) (by decide) rfl (hb hby own_d3_6) fun T1 v1 Lc1 X1 hQ1 => ?_
  obtain ⟨b, kb, rfl, Nq1, Kq1, szb, Ea, Fc, Fv, Vb⟩ := hQ1
  have O2 := O0.keep Kq1 (allS g_a all0)
  have N1 := Fr.app N0 Nq1
  have f3 := E_a.keep Kq1
  have Z4 : n0 ≤ T1.heap.size := Nat.le_trans Z0 Kq1.1
  have K5 : Keep h0 T1.heap [a] := Kr0.trans Kq1 (allS (Or.inl (List.mem_of_getElem? (i := 0) rfl)) all0)
  show Ends p.tables e below (T1.setTop (mkF m 9 #[.val (.ref a), .val (.ref ca)] [])) _
  obtain ⟨fs, hr, hrun, hended, hW, hsame⟩ := X1.leave (v := none) (fun _ => rfl)
  refine ⟨_, _, X1.returnOut hx Bd.returns (hb hby own_d3_9) hr, hrun, hended, _, _, rfl, ?_, ⟨_, rfl⟩, hW, hsame.mono (by decide) (by decide)⟩
  show own_si1_1_Q Z a ca kc cs x0 h0 n0 _ T1.heap _
  exact ⟨b, kb, rfl, N1, K5, szb, Ea, Fc, Fv, Vb⟩
theorem own_cm5_2_ef (m : MethodId) (ca : Addr) (b : Addr) (kc : ClassId) (k : ClassId) (x0 : Int32) (x1 : Int32) : entryFrame m #[(.ref ca), (.int (0 : Int32)), (.ref b), (.int (0 : Int32)), (.int (2 : Int32))] 7 = mkF m 0 #[.val (.ref ca), .val (.int (0 : Int32)), .val (.ref b), .val (.int (0 : Int32)), .val (.int (2 : Int32)), .unset, .unset] [] := by first | (simp [entryFrame, mkF, argsToLocals, Value.category]; done) | rfl
def own_cm5_2_Q (Z : State) (ca : Addr) (b : Addr) (kc : ClassId) (k : ClassId) (x0 : Int32) (x1 : Int32) (h0 : Heap) (n0 : Nat) (v : Option Value) (h : Heap) (L : List Loc) : Prop := v = some (.int (2 : Int32)) ∧ Fr n0 L ∧ Keep h0 h [b] ∧ Arv Z h b k .byte (2 : Int32) [(.int (nar .byte (x0.toInt8.toInt32))), (.int (nar .byte (x1.toInt8.toInt32)))] (.int (0 : Int32))
set_option maxRecDepth 65536 in
set_option maxHeartbeats 40000000 in
theorem own_cm5_2 (l : Launch) (Z : State) (a0 : Array Value) (hw : ∀ d ∈ tables_1, d.before a0 Z = true) (ws : List Jvm.Cond) (ca : Addr) (b : Addr) (kc : ClassId) (k : ClassId) (x0 : Int32) (x1 : Int32) (h0 : Heap) (n0 : Nat) (Z0 : n0 ≤ h0.size) (V_c : Arv Z h0 ca kc .char (2 : Int32) [(.int x0), (.int x1)] (.int (0 : Int32))) (V_b : Arv Z h0 b k .byte (2 : Int32) [(.int (0 : Int32)), (.int (0 : Int32))] (.int (0 : Int32))) (ne_cb : ca ≠ b) (g_b : n0 ≤ b) (le_x0 : ¬ (255 : Int32) < x0) (le_x1 : ¬ (255 : Int32) < x1) :
    MetFree l (⟨"java/lang/StringUTF16", "compress", "([CI[BII)I"⟩ : MethodName) (head1 (Jvm.Cond.code (⟨"java/lang/StringUTF16", "compress", "([CI[BII)I"⟩ : MethodName) jdk_52_method_21_code 7 (some .int) :: ws) ({ frames := 0, cells := 0, slots := 0, locals := 0 } : Room)) (fun as_ U => as_ = #[(.ref ca), (.int (0 : Int32)), (.ref b), (.int (0 : Int32)), (.int (2 : Int32))] ∧ Z.Warmed39 U.vm ∧ U.heap = h0) (fun _ _ _ _ _ => True) (fun _ U_ o_ V_ => ∃ v_ L_, o_ = .returned v_ ∧ own_cm5_2_Q Z ca b kc k x0 x1 h0 n0 v_ V_.heap L_ ∧ FrameEnd U_ o_ V_ L_ ({ frames := 0, cells := 0, slots := 0, locals := 0 } : Room).cells ({ frames := 0, cells := 0, slots := 0, locals := 0 } : Room).slots) := by
  refine MetFree.of_bodySF (plainFor_of_name own_pn0) hisR ?_
  intro p e s m args below meth c s₁ Bd hml0 hP hK
  obtain ⟨rfl, hZ, hh⟩ := hP
  have hx := Bd.exec
  have hby := Bd.bytes
  have hml : c.maxLocals = 7 := hml0
  have hown : s.vm.findClass "java/lang/StringUTF16" = some m.cls := findClass_of_methodNamed Bd.named
  have hnm := (name_of_methodNamed Bd.named Bd.method).1
  have X0 : Stand p l e ({ frames := 0, cells := 0, slots := 0, locals := 0 } : Room) s m #[(.ref ca), (.int (0 : Int32)), (.ref b), (.int (0 : Int32)), (.int (2 : Int32))] below meth c s₁ [] 0 0 := Stand.of_body Bd
  have e0 : s₁.heap = h0 := by rw [← hh, Bd.state]; rfl
  have N0 := Fr.nil n0
  refine own_begin (own_cm5_2_ef m ca b kc k x0 x1) ?_
  show Ends p.tables e below (s₁.setTop (mkF m 0 #[.val (.ref ca), .val (.int (0 : Int32)), .val (.ref b), .val (.int (0 : Int32)), .val (.int (2 : Int32)), .unset, .unset] [])) _
  have Kr0 : Keep h0 h0 [b] := Keep.refl h0 _
  refine s_iconst (pc' := 1) X0.here hx (v := (0 : Int32)) (hb hby own_d8_0) rfl rfl ?_
  refine s_istore (pc' := 3) X0.here hx (l' := #[.val (.ref ca), .val (.int (0 : Int32)), .val (.ref b), .val (.int (0 : Int32)), .val (.int (2 : Int32)), .val (.int (0 : Int32)), .unset]) (hb hby own_d8_1) rfl rfl ?_
  refine s_iload (pc' := 5) X0.here hx (hb hby own_d8_3) rfl rfl ?_
  refine s_iload (pc' := 7) X0.here hx (hb hby own_d8_5) rfl rfl ?_
  have hk1 : (0 : Int32) < (2 : Int32) := by decide
  refine s_icmpNo (pc' := 10) X0.here hx (hb hby own_d8_7) (tlt hk1).2.1 rfl ?_
  refine s_aloadN (pc' := 11) X0.here hx (hb hby own_d8_10) rfl rfl rfl ?_
  refine s_iloadN (pc' := 12) X0.here hx (hb hby own_d8_11) rfl rfl ?_
  refine s_caload (pc' := 13) (v := (.int x0)) X0 hx hZ e0 V_c ⟨by decide, by decide⟩ rfl (hb hby own_d8_12) rfl ?_
  refine s_istore (pc' := 15) X0.here hx (l' := #[.val (.ref ca), .val (.int (0 : Int32)), .val (.ref b), .val (.int (0 : Int32)), .val (.int (2 : Int32)), .val (.int (0 : Int32)), .val (.int x0)]) (hb hby own_d8_13) rfl rfl ?_
  refine s_iload (pc' := 17) X0.here hx (hb hby own_d8_15) rfl rfl ?_
  refine s_sipush (pc' := 20) X0.here hx (v := (255 : Int32)) (hb hby own_d8_17) rfl rfl ?_
  have hk2 : ¬ ((255 : Int32) < x0) := le_x0
  refine s_icmpYes (pc' := 26) X0.here hx (hb hby own_d8_20) (flt hk2).2.2.2 (by decide) (by decide) ?_
  refine s_aloadN (pc' := 27) X0.here hx (hb hby own_d8_26) rfl rfl rfl ?_
  refine s_iloadN (pc' := 28) X0.here hx (hb hby own_d8_27) rfl rfl ?_
  refine s_iload (pc' := 30) X0.here hx (hb hby own_d8_28) rfl rfl ?_
  refine s_i2b (pc' := 31) X0.here hx (hb hby own_d8_30) rfl ?_
  refine s_putB (pc' := 32) X0 hx hZ e0 V_b ⟨by decide, by decide⟩ 0 rfl (Nat.le_of_ble_eq_true rfl) (hb hby own_d8_31) rfl fun T3 hp3 X3 e3 W3 Vw3 => ?_
  have V4 : Arv Z hp3 b k .byte (2 : Int32) [(.int (nar .byte (x0.toInt8.toInt32))), (.int (0 : Int32))] (.int (0 : Int32)) := Vw3
  have N3 := Fr.snoc X3 N0 g_b
  have f5 := V_c.other W3 ne_cb
  have Z6 : n0 ≤ hp3.size := Nat.le_trans Z0 (Keep.of_wr W3).1
  have K7 : Keep h0 hp3 [b] := Kr0.wr W3 (Or.inl (List.mem_of_getElem? (i := 0) rfl))
  refine s_iinc (pc' := 35) X3.here hx (v := (1 : Int32)) (l' := #[.val (.ref ca), .val (.int ((0 : Int32) + (1 : Int32))), .val (.ref b), .val (.int (0 : Int32)), .val (.int (2 : Int32)), .val (.int (0 : Int32)), .val (.int x0)]) (hb hby own_d8_32) rfl rfl rfl rfl ?_
  refine s_iinc (pc' := 38) X3.here hx (v := (1 : Int32)) (l' := #[.val (.ref ca), .val (.int ((0 : Int32) + (1 : Int32))), .val (.ref b), .val (.int ((0 : Int32) + (1 : Int32))), .val (.int (2 : Int32)), .val (.int (0 : Int32)), .val (.int x0)]) (hb hby own_d8_35) rfl rfl rfl rfl ?_
  refine s_iinc (pc' := 41) X3.here hx (v := (1 : Int32)) (l' := #[.val (.ref ca), .val (.int ((0 : Int32) + (1 : Int32))), .val (.ref b), .val (.int ((0 : Int32) + (1 : Int32))), .val (.int (2 : Int32)), .val (.int ((0 : Int32) + (1 : Int32))), .val (.int x0)]) (hb hby own_d8_38) rfl rfl rfl rfl ?_
  refine s_goto (pc' := 3) X3.here hx (hb hby own_d8_41) (by decide) (by decide) ?_
  rw [show ((0 : Int32) + (1 : Int32)) = (1 : Int32) from by decide]
  refine s_iload (pc' := 5) X3.here hx (hb hby own_d8_3) rfl rfl ?_
  refine s_iload (pc' := 7) X3.here hx (hb hby own_d8_5) rfl rfl ?_
  have hk8 : (1 : Int32) < (2 : Int32) := by decide
  refine s_icmpNo (pc' := 10) X3.here hx (hb hby own_d8_7) (tlt hk8).2.1 rfl ?_
  refine s_aloadN (pc' := 11) X3.here hx (hb hby own_d8_10) rfl rfl rfl ?_
  refine s_iloadN (pc' := 12) X3.here hx (hb hby own_d8_11) rfl rfl ?_
  refine s_caload (pc' := 13) (v := (.int x1)) X3 hx hZ e3 f5 ⟨by decide, by decide⟩ rfl (hb hby own_d8_12) rfl ?_
  refine s_istore (pc' := 15) X3.here hx (l' := #[.val (.ref ca), .val (.int (1 : Int32)), .val (.ref b), .val (.int (1 : Int32)), .val (.int (2 : Int32)), .val (.int (1 : Int32)), .val (.int x1)]) (hb hby own_d8_13) rfl rfl ?_
  refine s_iload (pc' := 17) X3.here hx (hb hby own_d8_15) rfl rfl ?_
  refine s_sipush (pc' := 20) X3.here hx (v := (255 : Int32)) (hb hby own_d8_17) rfl rfl ?_
  have hk9 : ¬ ((255 : Int32) < x1) := le_x1
  refine s_icmpYes (pc' := 26) X3.here hx (hb hby own_d8_20) (flt hk9).2.2.2 (by decide) (by decide) ?_
  refine s_aloadN (pc' := 27) X3.here hx (hb hby own_d8_26) rfl rfl rfl ?_
  refine s_iloadN (pc' := 28) X3.here hx (hb hby own_d8_27) rfl rfl ?_
  refine s_iload (pc' := 30) X3.here hx (hb hby own_d8_28) rfl rfl ?_
  refine s_i2b (pc' := 31) X3.here hx (hb hby own_d8_30) rfl ?_
  refine s_putB (pc' := 32) X3 hx hZ e3 V4 ⟨by decide, by decide⟩ 1 rfl (Nat.le_of_ble_eq_true rfl) (hb hby own_d8_31) rfl fun T10 hp10 X10 e10 W10 Vw10 => ?_
  have V11 : Arv Z hp10 b k .byte (2 : Int32) [(.int (nar .byte (x0.toInt8.toInt32))), (.int (nar .byte (x1.toInt8.toInt32)))] (.int (0 : Int32)) := Vw10
  have N10 := Fr.snoc X10 N3 g_b
  have f12 := f5.other W10 ne_cb
  have Z13 : n0 ≤ hp10.size := Nat.le_trans Z6 (Keep.of_wr W10).1
  have K14 : Keep h0 hp10 [b] := K7.wr W10 (Or.inl (List.mem_of_getElem? (i := 0) rfl))
  refine s_iinc (pc' := 35) X10.here hx (v := (1 : Int32)) (l' := #[.val (.ref ca), .val (.int ((1 : Int32) + (1 : Int32))), .val (.ref b), .val (.int (1 : Int32)), .val (.int (2 : Int32)), .val (.int (1 : Int32)), .val (.int x1)]) (hb hby own_d8_32) rfl rfl rfl rfl ?_
  refine s_iinc (pc' := 38) X10.here hx (v := (1 : Int32)) (l' := #[.val (.ref ca), .val (.int ((1 : Int32) + (1 : Int32))), .val (.ref b), .val (.int ((1 : Int32) + (1 : Int32))), .val (.int (2 : Int32)), .val (.int (1 : Int32)), .val (.int x1)]) (hb hby own_d8_35) rfl rfl rfl rfl ?_
  refine s_iinc (pc' := 41) X10.here hx (v := (1 : Int32)) (l' := #[.val (.ref ca), .val (.int ((1 : Int32) + (1 : Int32))), .val (.ref b), .val (.int ((1 : Int32) + (1 : Int32))), .val (.int (2 : Int32)), .val (.int ((1 : Int32) + (1 : Int32))), .val (.int x1)]) (hb hby own_d8_38) rfl rfl rfl rfl ?_
  refine s_goto (pc' := 3) X10.here hx (hb hby own_d8_41) (by decide) (by decide) ?_
  rw [show ((1 : Int32) + (1 : Int32)) = (2 : Int32) from by decide]
  refine s_iload (pc' := 5) X10.here hx (hb hby own_d8_3) rfl rfl ?_
  refine s_iload (pc' := 7) X10.here hx (hb hby own_d8_5) rfl rfl ?_
  have hk15 : ¬ ((2 : Int32) < (2 : Int32)) := by decide
  refine s_icmpYes (pc' := 44) X10.here hx (hb hby own_d8_7) (flt hk15).2.1 (by decide) (by decide) ?_
  refine s_iload (pc' := 46) X10.here hx (hb hby own_d8_44) rfl rfl ?_
  obtain ⟨fs, hr, hrun, hended, hW, hsame⟩ := X10.leave (v := some (.int (2 : Int32))) (fun h => by rw [Bd.returns] at h; cases h)
  refine ⟨_, _, retOut X10 hx Bd.returns rfl (Or.inl ⟨rfl, Or.inl rfl, _, rfl⟩) (hb hby own_d8_46) hr, hrun, hended, _, _, rfl, ?_, ⟨_, rfl⟩, hW, hsame.mono (by decide) (by decide)⟩
  show own_cm5_2_Q Z ca b kc k x0 x1 h0 n0 _ T10.heap _
  rw [e10]
  exact ⟨rfl, N10, K14, V11⟩
theorem own_cm3_2_ef (m : MethodId) (ca : Addr) (kc : ClassId) (x0 : Int32) (x1 : Int32) : entryFrame m #[(.ref ca), (.int (0 : Int32)), (.int (2 : Int32))] 6 = mkF m 0 #[.val (.ref ca), .val (.int (0 : Int32)), .val (.int (2 : Int32)), .unset, .unset, .unset] [] := by first | (simp [entryFrame, mkF, argsToLocals, Value.category]; done) | rfl
def own_cm3_2_Q (Z : State) (ca : Addr) (kc : ClassId) (x0 : Int32) (x1 : Int32) (h0 : Heap) (n0 : Nat) (v : Option Value) (h : Heap) (L : List Loc) : Prop := ∃ b kb, v = some (.ref b) ∧ Fr n0 L ∧ Keep h0 h [] ∧ h0.size ≤ b ∧ Arv Z h b kb .byte (2 : Int32) [(.int (nar .byte (x0.toInt8.toInt32))), (.int (nar .byte (x1.toInt8.toInt32)))] (.int (0 : Int32))
set_option maxRecDepth 65536 in
set_option maxHeartbeats 40000000 in
theorem own_cm3_2 (l : Launch) (Z : State) (a0 : Array Value) (hw : ∀ d ∈ tables_1, d.before a0 Z = true) (ws : List Jvm.Cond) (ca : Addr) (kc : ClassId) (x0 : Int32) (x1 : Int32) (h0 : Heap) (n0 : Nat) (Z0 : n0 ≤ h0.size) (V_c : Arv Z h0 ca kc .char (2 : Int32) [(.int x0), (.int x1)] (.int (0 : Int32))) (le_x0 : ¬ (255 : Int32) < x0) (le_x1 : ¬ (255 : Int32) < x1) :
    MetFree l (⟨"java/lang/StringUTF16", "compress", "([CII)[B"⟩ : MethodName) (head1 (Jvm.Cond.code (⟨"java/lang/StringUTF16", "compress", "([CII)[B"⟩ : MethodName) jdk_52_method_16_code 6 (some (.array .byte)) :: ws) ({ frames := 1, cells := 1, slots := 2, locals := 18 } : Room)) (fun as_ U => as_ = #[(.ref ca), (.int (0 : Int32)), (.int (2 : Int32))] ∧ Z.Warmed39 U.vm ∧ U.heap = h0) (fun _ _ _ _ _ => True) (fun _ U_ o_ V_ => ∃ v_ L_, o_ = .returned v_ ∧ own_cm3_2_Q Z ca kc x0 x1 h0 n0 v_ V_.heap L_ ∧ FrameEnd U_ o_ V_ L_ ({ frames := 1, cells := 1, slots := 2, locals := 18 } : Room).cells ({ frames := 1, cells := 1, slots := 2, locals := 18 } : Room).slots) := by
  refine MetFree.of_bodySF (plainFor_of_name own_pn0) hisR ?_
  intro p e s m args below meth c s₁ Bd hml0 hP hK
  obtain ⟨rfl, hZ, hh⟩ := hP
  have hx := Bd.exec
  have hby := Bd.bytes
  have hml : c.maxLocals = 6 := hml0
  have hown : s.vm.findClass "java/lang/StringUTF16" = some m.cls := findClass_of_methodNamed Bd.named
  have hnm := (name_of_methodNamed Bd.named Bd.method).1
  have X0 : Stand p l e ({ frames := 1, cells := 1, slots := 2, locals := 18 } : Room) s m #[(.ref ca), (.int (0 : Int32)), (.int (2 : Int32))] below meth c s₁ [] 0 0 := Stand.of_body Bd
  have e0 : s₁.heap = h0 := by rw [← hh, Bd.state]; rfl
  have N0 := Fr.nil n0
  refine own_begin (own_cm3_2_ef m ca kc x0 x1) ?_
  show Ends p.tables e below (s₁.setTop (mkF m 0 #[.val (.ref ca), .val (.int (0 : Int32)), .val (.int (2 : Int32)), .unset, .unset, .unset] [])) _
  have Kr0 : Keep h0 h0 [] := Keep.refl h0 _
  refine s_iloadN (pc' := 1) X0.here hx (hb hby own_d7_0) rfl rfl ?_
  refine s_newP (pc' := 3) (cap := 2) X0 hx hZ (hw _ (List.mem_of_getElem? (i := 25) rfl)) e0 (hb hby own_d7_1) (by decide) (by decide) (by decide) (by decide) (by decide) rfl fun T1 hp1 X1 e1 ka1 E1 b gq1 A1 => ?_
  have g_b : n0 ≤ b := Nat.le_trans Z0 (Nat.le_of_eq gq1.symm)
  have sz_b : h0.size ≤ b := Nat.le_trans Kr0.1 (Nat.le_of_eq gq1.symm)
  have ne2 : ca ≠ b := Nat.ne_of_lt (Nat.lt_of_lt_of_le V_c.lt (Nat.le_of_eq gq1.symm))
  have f3 := V_c.ext E1
  have Z4 : n0 ≤ hp1.size := Nat.le_trans Z0 E1.1
  have K5 : Keep h0 hp1 [] := Kr0.ext E1
  have V6 : Arv Z hp1 b ka1 .byte (2 : Int32) [(.int (0 : Int32)), (.int (0 : Int32))] (.int (0 : Int32)) := (Arv.new A1 (by decide)).pad (pad_rep [] (.int (0 : Int32)) 2)
  refine s_astoreN (pc' := 4) X1.here hx (l' := #[.val (.ref ca), .val (.int (0 : Int32)), .val (.int (2 : Int32)), .val (.ref b), .unset, .unset]) (hb hby own_d7_3) rfl rfl rfl ?_
  refine s_aloadN (pc' := 5) X1.here hx (hb hby own_d7_4) rfl rfl rfl ?_
  refine s_iloadN (pc' := 6) X1.here hx (hb hby own_d7_5) rfl rfl ?_
  refine s_aloadN (pc' := 7) X1.here hx (hb hby own_d7_6) rfl rfl rfl ?_
  refine s_iconst (pc' := 8) X1.here hx (v := (0 : Int32)) (hb hby own_d7_7) rfl rfl ?_
  refine s_iloadN (pc' := 9) X1.here hx (hb hby own_d7_8) rfl rfl ?_
  refine s_callS (pc' := 12) (W := 0) X1 hx hZ  hown (hw _ (List.mem_of_getElem? (i := 40) rfl)) (hw _ (List.mem_of_getElem? (i := 41) rfl)) (hw _ (List.mem_of_getElem? (i := 38) rfl)) (hw _ (List.mem_of_getElem? (i := 42) rfl)) (by decide) e1 (own_cm5_2 l Z a0 hw [] ca b kc ka1 x0 x1 hp1 n0 Z4 f3 V6 ne2 g_b le_x0 le_x1) (by rw [hml]; rfl) [(.ref ca), (.int (0 : Int32)), (.ref b), (.int (0 : Int32)), (.int (2 : Int32))] [] rfl (lenOf own_pd0 rfl) rfl (Nat.le_of_eq rfl) (by decide) (by decide) (by decide) (by decide) rfl (hb hby own_d7_9) fun T7 v7 Lc7 X7 hQ7 => ?_
  obtain ⟨rfl, Nq7, Kq7, Vb⟩ := hQ7
  have N7 := Fr.app N0 Nq7
  have f8 := f3.keep Kq7 (ninS ne2 nin0)
  have Z9 : n0 ≤ T7.heap.size := Nat.le_trans Z4 Kq7.1
  have K10 : Keep h0 T7.heap [] := K5.trans Kq7 (allS (Or.inr sz_b) all0)
  show Ends p.tables e below (T7.setTop (mkF m 12 #[.val (.ref ca), .val (.int (0 : Int32)), .val (.int (2 : Int32)), .val (.ref b), .unset, .unset] [(.int (2 : Int32))])) _
  refine s_istore (pc' := 14) X7.here hx (l' := #[.val (.ref ca), .val (.int (0 : Int32)), .val (.int (2 : Int32)), .val (.ref b), .val (.int (2 : Int32)), .unset]) (hb hby own_d7_12) rfl rfl ?_
  refine s_iload (pc' := 16) X7.here hx (hb hby own_d7_14) rfl rfl ?_
  refine s_iloadN (pc' := 17) X7.here hx (hb hby own_d7_16) rfl rfl ?_
  have hk11 : (2 : Int32) = (2 : Int32) := rfl
  refine s_icmpYes (pc' := 57) X7.here hx (hb hby own_d7_17) (teq hk11).1 (by decide) (by decide) ?_
  refine s_aloadN (pc' := 58) X7.here hx (hb hby own_d7_57) rfl rfl rfl ?_
  obtain ⟨fs, hr, hrun, hended, hW, hsame⟩ := X7.leave (v := some (.ref b)) (fun h => by rw [Bd.returns] at h; cases h)
  refine ⟨_, _, retOut X7 hx Bd.returns rfl (Or.inr (Or.inr (Or.inr (Or.inr ⟨rfl, rfl, rfl⟩)))) (hb hby own_d7_58) hr, hrun, hended, _, _, rfl, ?_, ⟨_, rfl⟩, hW, hsame.mono (by decide) (by decide)⟩
  show own_cm3_2_Q Z ca kc x0 x1 h0 n0 _ T7.heap _
  exact ⟨b, ka1, rfl, N7, K10, sz_b, Vb⟩
theorem own_cfl_2_ef (m : MethodId) (b : Addr) (k : ClassId) (vs : List Value) : entryFrame m #[(.ref b), (.int (2 : Int32))] 2 = mkF m 0 #[.val (.ref b), .val (.int (2 : Int32))] [] := by first | (simp [entryFrame, mkF, argsToLocals, Value.category]; done) | rfl
def own_cfl_2_Q (Z : State) (b : Addr) (k : ClassId) (vs : List Value) (h0 : Heap) (n0 : Nat) (v : Option Value) (h : Heap) (L : List Loc) : Prop := v = some (.int 0) ∧ Fr n0 L ∧ h = h0
set_option maxRecDepth 65536 in
set_option maxHeartbeats 40000000 in
theorem own_cfl_2 (l : Launch) (Z : State) (a0 : Array Value) (hw : ∀ d ∈ tables_1, d.before a0 Z = true) (ws : List Jvm.Cond) (b : Addr) (k : ClassId) (vs : List Value) (h0 : Heap) (n0 : Nat) (Z0 : n0 ≤ h0.size) (V_b : Arv Z h0 b k .byte (2 : Int32) vs (.int (0 : Int32))) :
    MetFree l (⟨"java/lang/StringUTF16", "coderFromArrayLen", "([BI)B"⟩ : MethodName) (head1 (Jvm.Cond.code (⟨"java/lang/StringUTF16", "coderFromArrayLen", "([BI)B"⟩ : MethodName) jdk_52_method_15_code 2 (some .byte) :: ws) ({ frames := 0, cells := 0, slots := 0, locals := 0 } : Room)) (fun as_ U => as_ = #[(.ref b), (.int (2 : Int32))] ∧ Z.Warmed39 U.vm ∧ U.heap = h0) (fun _ _ _ _ _ => True) (fun _ U_ o_ V_ => ∃ v_ L_, o_ = .returned v_ ∧ own_cfl_2_Q Z b k vs h0 n0 v_ V_.heap L_ ∧ FrameEnd U_ o_ V_ L_ ({ frames := 0, cells := 0, slots := 0, locals := 0 } : Room).cells ({ frames := 0, cells := 0, slots := 0, locals := 0 } : Room).slots) := by
  refine MetFree.of_bodySF (plainFor_of_name own_pn0) hisR ?_
  intro p e s m args below meth c s₁ Bd hml0 hP hK
  obtain ⟨rfl, hZ, hh⟩ := hP
  have hx := Bd.exec
  have hby := Bd.bytes
  have hml : c.maxLocals = 2 := hml0
  have hown : s.vm.findClass "java/lang/StringUTF16" = some m.cls := findClass_of_methodNamed Bd.named
  have hnm := (name_of_methodNamed Bd.named Bd.method).1
  have X0 : Stand p l e ({ frames := 0, cells := 0, slots := 0, locals := 0 } : Room) s m #[(.ref b), (.int (2 : Int32))] below meth c s₁ [] 0 0 := Stand.of_body Bd
  have e0 : s₁.heap = h0 := by rw [← hh, Bd.state]; rfl
  have N0 := Fr.nil n0
  refine own_begin (own_cfl_2_ef m b k vs) ?_
  show Ends p.tables e below (s₁.setTop (mkF m 0 #[.val (.ref b), .val (.int (2 : Int32))] [])) _
  refine s_iloadN (pc' := 1) X0.here hx (hb hby own_d9_0) rfl rfl ?_
  refine s_aloadN (pc' := 2) X0.here hx (hb hby own_d9_1) rfl rfl rfl ?_
  refine s_arraylength (pc' := 3) X0 hx hZ e0 V_b (hb hby own_d9_2) rfl ?_
  refine s_isub (pc' := 4) X0.here hx (hb hby own_d9_3) rfl ?_
  refine s_bipush (pc' := 6) X0.here hx (v := (31 : Int32)) (hb hby own_d9_4) rfl rfl ?_
  refine s_iushr (pc' := 7) X0.here hx (hb hby own_d9_6) rfl ?_
  refine s_i2b (pc' := 8) X0.here hx (hb hby own_d9_7) rfl ?_
  obtain ⟨fs, hr, hrun, hended, hW, hsame⟩ := X0.leave (v := some (.int (0 : Int32))) (fun h => by rw [Bd.returns] at h; cases h)
  refine ⟨_, _, retN X0 hx (t := .byte) Bd.returns (by simp) (hb hby own_d9_8) hr, hrun, hended, _, _, rfl, ?_, ⟨_, rfl⟩, hW, hsame.mono (by decide) (by decide)⟩
  show own_cfl_2_Q Z b k vs h0 n0 _ s₁.heap _
  rw [e0]
  exact ⟨rfl, N0, rfl⟩
theorem own_si4_2_ef (m : MethodId) (a : Addr) (ca : Addr) (kc : ClassId) (cs : Int32) (x0 : Int32) (x1 : Int32) : entryFrame m #[(.ref a), (.ref ca), (.int (0 : Int32)), (.int (2 : Int32)), .null] 6 = mkF m 0 #[.val (.ref a), .val (.ref ca), .val (.int (0 : Int32)), .val (.int (2 : Int32)), .val .null, .unset] [] := by first | (simp [entryFrame, mkF, argsToLocals, Value.category]; done) | rfl
def own_si4_2_Q (Z : State) (a : Addr) (ca : Addr) (kc : ClassId) (cs : Int32) (x0 : Int32) (x1 : Int32) (h0 : Heap) (n0 : Nat) (v : Option Value) (h : Heap) (L : List Loc) : Prop := ∃ b kb, v = none ∧ Fr n0 L ∧ Keep h0 h [a] ∧ h0.size ≤ b ∧ Exa Z h a "java/lang/String" ∧ Fld Z h a "java/lang/String" "coder" "B" (.int (0 : Int32)) ∧ Fld Z h a "java/lang/String" "value" "[B" (.ref b) ∧ Arv Z h b kb .byte (2 : Int32) [(.int (nar .byte (x0.toInt8.toInt32))), (.int (nar .byte (x1.toInt8.toInt32)))] (.int (0 : Int32))
set_option maxRecDepth 65536 in
set_option maxHeartbeats 40000000 in
theorem own_si4_2 (l : Launch) (Z : State) (a0 : Array Value) (hw : ∀ d ∈ tables_1, d.before a0 Z = true) (ws : List Jvm.Cond) (a : Addr) (ca : Addr) (kc : ClassId) (cs : Int32) (x0 : Int32) (x1 : Int32) (h0 : Heap) (n0 : Nat) (Z0 : n0 ≤ h0.size) (O0 : Old Z n0 h0) (S_cs : Sta Z Z.heap "java/lang/String" "COMPACT_STRINGS" "Z" (.int cs)) (hcs : ¬ cs = (0 : Int32)) (F_v : Fld Z h0 a "java/lang/String" "value" "[B" .null) (F_c : Fld Z h0 a "java/lang/String" "coder" "B" (.int (0 : Int32))) (E_a : Exa Z h0 a "java/lang/String") (g_a : n0 ≤ a) (V_c : Arv Z h0 ca kc .char (2 : Int32) [(.int x0), (.int x1)] (.int (0 : Int32))) (le_x0 : ¬ (255 : Int32) < x0) (le_x1 : ¬ (255 : Int32) < x1) :
    MetFree l (⟨"java/lang/String", "<init>", "([CIILjava/lang/Void;)V"⟩ : MethodName) (head1 (Jvm.Cond.code (⟨"java/lang/String", "<init>", "([CIILjava/lang/Void;)V"⟩ : MethodName) jdk_42_method_149_code 6 none :: ws) ({ frames := 2, cells := 1, slots := 2, locals := 35 } : Room)) (fun as_ U => as_ = #[(.ref a), (.ref ca), (.int (0 : Int32)), (.int (2 : Int32)), .null] ∧ Z.Warmed39 U.vm ∧ U.heap = h0) (fun _ _ _ _ _ => True) (fun _ U_ o_ V_ => ∃ v_ L_, o_ = .returned v_ ∧ own_si4_2_Q Z a ca kc cs x0 x1 h0 n0 v_ V_.heap L_ ∧ FrameEnd U_ o_ V_ L_ ({ frames := 2, cells := 1, slots := 2, locals := 35 } : Room).cells ({ frames := 2, cells := 1, slots := 2, locals := 35 } : Room).slots) := by
  refine MetFree.of_bodySF (plainFor_of_name own_pn1) hisR ?_
  intro p e s m args below meth c s₁ Bd hml0 hP hK
  obtain ⟨rfl, hZ, hh⟩ := hP
  have hx := Bd.exec
  have hby := Bd.bytes
  have hml : c.maxLocals = 6 := hml0
  have hown : s.vm.findClass "java/lang/String" = some m.cls := findClass_of_methodNamed Bd.named
  have hnm := (name_of_methodNamed Bd.named Bd.method).1
  have X0 : Stand p l e ({ frames := 2, cells := 1, slots := 2, locals := 35 } : Room) s m #[(.ref a), (.ref ca), (.int (0 : Int32)), (.int (2 : Int32)), .null] below meth c s₁ [] 0 0 := Stand.of_body Bd
  have e0 : s₁.heap = h0 := by rw [← hh, Bd.state]; rfl
  have N0 := Fr.nil n0
  refine own_begin (own_si4_2_ef m a ca kc cs x0 x1) ?_
  show Ends p.tables e below (s₁.setTop (mkF m 0 #[.val (.ref a), .val (.ref ca), .val (.int (0 : Int32)), .val (.int (2 : Int32)), .val .null, .unset] [])) _
  have Kr0 : Keep h0 h0 [a] := Keep.refl h0 _
  refine s_aloadN (pc' := 1) X0.here hx (hb hby own_d4_0) rfl rfl rfl ?_
  refine s_initO (pc' := 4) (W := 0) X0 hx hZ hown (hw _ (List.mem_of_getElem? (i := 21) rfl)) (hw _ (List.mem_of_getElem? (i := 22) rfl)) (hw _ (List.mem_of_getElem? (i := 23) rfl)) e0 (by rw [hml]; rfl) (hb hby own_d4_1) (by decide) (Nat.le_of_eq rfl) (by decide) rfl fun T1 X1 e1 => ?_
  refine s_iloadN (pc' := 5) X1.here hx (hb hby own_d4_4) rfl rfl ?_
  have hk2 : ¬ ((2 : Int32) = (0 : Int32)) := by decide
  refine s_ifYes (pc' := 27) X1.here hx (hb hby own_d4_5) ((if0 _ _).trans (feq hk2).2) (by decide) (by decide) ?_
  refine s_getS (pc' := 30) X1 hx hZ hown (host := "") (Or.inl (hw _ (List.mem_of_getElem? (i := 35) rfl))) Via.refl e1 (S_cs.ext O0.2) (hb hby own_d4_27) rfl fun T3 X3 e3 => ?_
  have hk4 : ¬ (cs = (0 : Int32)) := hcs
  refine s_ifNo (pc' := 33) X3.here hx (hb hby own_d4_30) ((if0 _ _).trans (feq hk4).1) rfl ?_
  refine s_aloadN (pc' := 34) X3.here hx (hb hby own_d4_33) rfl rfl rfl ?_
  refine s_iloadN (pc' := 35) X3.here hx (hb hby own_d4_34) rfl rfl ?_
  refine s_iloadN (pc' := 36) X3.here hx (hb hby own_d4_35) rfl rfl ?_
  refine s_callS (pc' := 39) (W := 0) X3 hx hZ  hown (hw _ (List.mem_of_getElem? (i := 36) rfl)) (hw _ (List.mem_of_getElem? (i := 37) rfl)) (hw _ (List.mem_of_getElem? (i := 38) rfl)) (hw _ (List.mem_of_getElem? (i := 39) rfl)) (by decide) e3 (own_cm3_2 l Z a0 hw [] ca kc x0 x1 h0 n0 Z0 V_c le_x0 le_x1) (by rw [hml]; rfl) [(.ref ca), (.int (0 : Int32)), (.int (2 : Int32))] [] rfl (lenOf own_pd1 rfl) rfl (Nat.le_of_eq rfl) (by decide) (by decide) (by decide) (by decide) rfl (hb hby own_d4_36) fun T5 v5 Lc5 X5 hQ5 => ?_
  obtain ⟨b, kb, rfl, Nq5, Kq5, szb, Vb⟩ := hQ5
  have g_b : n0 ≤ b := Nat.le_trans Z0 szb
  have sz_b : h0.size ≤ b := Nat.le_trans Kr0.1 szb
  have ne6 : a ≠ b := Nat.ne_of_lt (Nat.lt_of_lt_of_le F_v.lt szb)
  have ne7 : ca ≠ b := Nat.ne_of_lt (Nat.lt_of_lt_of_le V_c.lt szb)
  have O8 := O0.keep Kq5 all0
  have N5 := Fr.app N0 Nq5
  have f9 := F_v.keep Kq5 nin0
  have f10 := F_c.keep Kq5 nin0
  have f11 := E_a.keep Kq5
  have f12 := V_c.keep Kq5 nin0
  have Z13 : n0 ≤ T5.heap.size := Nat.le_trans Z0 Kq5.1
  have K14 : Keep h0 T5.heap [a] := Kr0.trans Kq5 all0
  show Ends p.tables e below (T5.setTop (mkF m 39 #[.val (.ref a), .val (.ref ca), .val (.int (0 : Int32)), .val (.int (2 : Int32)), .val .null, .unset] [(.ref b)])) _
  refine s_astore (pc' := 41) X5.here hx (l' := #[.val (.ref a), .val (.ref ca), .val (.int (0 : Int32)), .val (.int (2 : Int32)), .val .null, .val (.ref b)]) (hb hby own_d4_39) rfl rfl rfl ?_
  refine s_aloadN (pc' := 42) X5.here hx (hb hby own_d4_41) rfl rfl rfl ?_
  refine s_aload (pc' := 44) X5.here hx (hb hby own_d4_42) rfl rfl rfl ?_
  refine s_iloadN (pc' := 45) X5.here hx (hb hby own_d4_44) rfl rfl ?_
  refine s_callS (pc' := 48) (W := 1) X5 hx hZ  hown (hw _ (List.mem_of_getElem? (i := 43) rfl)) (hw _ (List.mem_of_getElem? (i := 44) rfl)) (hw _ (List.mem_of_getElem? (i := 38) rfl)) (hw _ (List.mem_of_getElem? (i := 45) rfl)) (by decide) rfl (own_cfl_2 l Z a0 hw [] b kb [(.int (nar .byte (x0.toInt8.toInt32))), (.int (nar .byte (x1.toInt8.toInt32)))] T5.heap n0 Z13 Vb) (by rw [hml]; rfl) [(.ref b), (.int (2 : Int32))] [(.ref a)] rfl (lenOf own_pd2 rfl) rfl (Nat.le_of_eq rfl) (by decide) (by decide) (by decide) (by decide) rfl (hb hby own_d4_45) fun T15 v15 Lc15 X15 hQ15 => ?_
  obtain ⟨rfl, Nq15, eh15⟩ := hQ15
  have N15 := Fr.app N5 Nq15
  show Ends p.tables e below (T15.setTop (mkF m 48 #[.val (.ref a), .val (.ref ca), .val (.int (0 : Int32)), .val (.int (2 : Int32)), .val .null, .val (.ref b)] [(.int (0 : Int32)), (.ref a)])) _
  refine s_putFN (pc' := 51) (v' := (.int (0 : Int32))) (ty := .byte) X15 hx hZ hown (hw _ (List.mem_of_getElem? (i := 31) rfl)) Via.refl eh15 f10 f11 (Or.inr ⟨(hw _ (List.mem_of_getElem? (i := 27) rfl)), rfl, hnm⟩) (hw _ (List.mem_of_getElem? (i := 12) rfl)) (by decide) rfl rfl (hb hby own_d4_48) rfl fun T16 hp16 X16 e16 W16 => ?_
  have N16 := Fr.snoc X16 N15 g_a
  have O17 := O8.wr W16 g_a
  have f18 := f9.other W16 (Or.inr (slot_ne (Or.inr (hw _ (List.mem_of_getElem? (i := 26) rfl))) (Or.inr (hw _ (List.mem_of_getElem? (i := 27) rfl))) (by decide) (t := (.array .byte)) (t' := .byte) (by decide) (by decide)))
  have f19 := f10.same W16
  have f20 := f11.wr W16
  have f21 := Vb.other W16 (Ne.symm ne6)
  have Z22 : n0 ≤ hp16.size := Nat.le_trans Z13 (Keep.of_wr W16).1
  have K23 : Keep h0 hp16 [a] := K14.wr W16 (Or.inl (List.mem_of_getElem? (i := 0) rfl))
  refine s_aloadN (pc' := 52) X16.here hx (hb hby own_d4_51) rfl rfl rfl ?_
  refine s_aload (pc' := 54) X16.here hx (hb hby own_d4_52) rfl rfl rfl ?_
  refine s_putF (pc' := 57) (ty := (.array .byte)) X16 hx hZ hown (host := "") (Or.inl (hw _ (List.mem_of_getElem? (i := 30) rfl))) Via.refl e16 f18 f20 (Or.inr ⟨(hw _ (List.mem_of_getElem? (i := 26) rfl)), rfl, hnm⟩) (hw _ (List.mem_of_getElem? (i := 12) rfl)) (by decide) rfl rfl (hb hby own_d4_54) rfl fun T24 hp24 X24 e24 W24 => ?_
  have N24 := Fr.snoc X24 N16 g_a
  have O25 := O17.wr W24 g_a
  have f26 := f18.same W24
  have f27 := f19.other W24 (Or.inr (slot_ne (Or.inr (hw _ (List.mem_of_getElem? (i := 27) rfl))) (Or.inr (hw _ (List.mem_of_getElem? (i := 26) rfl))) (by decide) (t := .byte) (t' := (.array .byte)) (by decide) (by decide)))
  have f28 := f20.wr W24
  have f29 := f21.other W24 (Ne.symm ne6)
  have Z30 : n0 ≤ hp24.size := Nat.le_trans Z22 (Keep.of_wr W24).1
  have K31 : Keep h0 hp24 [a] := K23.wr W24 (Or.inl (List.mem_of_getElem? (i := 0) rfl))
  obtain ⟨fs, hr, hrun, hended, hW, hsame⟩ := X24.leave (v := none) (fun _ => rfl)
  refine ⟨_, _, X24.returnOut hx Bd.returns (hb hby own_d4_57) hr, hrun, hended, _, _, rfl, ?_, ⟨_, rfl⟩, hW, hsame.mono (by decide) (by decide)⟩
  show own_si4_2_Q Z a ca kc cs x0 x1 h0 n0 _ T24.heap _
  rw [e24]
  exact ⟨b, kb, rfl, N24, K31, sz_b, f28, f27, f26, f29⟩
theorem own_si1_2_ef (m : MethodId) (a : Addr) (ca : Addr) (kc : ClassId) (cs : Int32) (x0 : Int32) (x1 : Int32) : entryFrame m #[(.ref a), (.ref ca)] 2 = mkF m 0 #[.val (.ref a), .val (.ref ca)] [] := by first | (simp [entryFrame, mkF, argsToLocals, Value.category]; done) | rfl
def own_si1_2_Q (Z : State) (a : Addr) (ca : Addr) (kc : ClassId) (cs : Int32) (x0 : Int32) (x1 : Int32) (h0 : Heap) (n0 : Nat) (v : Option Value) (h : Heap) (L : List Loc) : Prop := ∃ b kb, v = none ∧ Fr n0 L ∧ Keep h0 h [a] ∧ h0.size ≤ b ∧ Exa Z h a "java/lang/String" ∧ Fld Z h a "java/lang/String" "coder" "B" (.int (0 : Int32)) ∧ Fld Z h a "java/lang/String" "value" "[B" (.ref b) ∧ Arv Z h b kb .byte (2 : Int32) [(.int (nar .byte (x0.toInt8.toInt32))), (.int (nar .byte (x1.toInt8.toInt32)))] (.int (0 : Int32))
set_option maxRecDepth 65536 in
set_option maxHeartbeats 40000000 in
theorem own_si1_2 (l : Launch) (Z : State) (a0 : Array Value) (hw : ∀ d ∈ tables_1, d.before a0 Z = true) (ws : List Jvm.Cond) (a : Addr) (ca : Addr) (kc : ClassId) (cs : Int32) (x0 : Int32) (x1 : Int32) (h0 : Heap) (n0 : Nat) (Z0 : n0 ≤ h0.size) (O0 : Old Z n0 h0) (S_cs : Sta Z Z.heap "java/lang/String" "COMPACT_STRINGS" "Z" (.int cs)) (hcs : ¬ cs = (0 : Int32)) (F_v : Fld Z h0 a "java/lang/String" "value" "[B" .null) (F_c : Fld Z h0 a "java/lang/String" "coder" "B" (.int (0 : Int32))) (E_a : Exa Z h0 a "java/lang/String") (g_a : n0 ≤ a) (V_c : Arv Z h0 ca kc .char (2 : Int32) [(.int x0), (.int x1)] (.int (0 : Int32))) (le_x0 : ¬ (255 : Int32) < x0) (le_x1 : ¬ (255 : Int32) < x1) :
    MetFree l (⟨"java/lang/String", "<init>", "([C)V"⟩ : MethodName) (head1 (Jvm.Cond.code (⟨"java/lang/String", "<init>", "([C)V"⟩ : MethodName) jdk_42_method_3_code 2 none :: ws) ({ frames := 3, cells := 1, slots := 2, locals := 52 } : Room)) (fun as_ U => as_ = #[(.ref a), (.ref ca)] ∧ Z.Warmed39 U.vm ∧ U.heap = h0) (fun _ _ _ _ _ => True) (fun _ U_ o_ V_ => ∃ v_ L_, o_ = .returned v_ ∧ own_si1_2_Q Z a ca kc cs x0 x1 h0 n0 v_ V_.heap L_ ∧ FrameEnd U_ o_ V_ L_ ({ frames := 3, cells := 1, slots := 2, locals := 52 } : Room).cells ({ frames := 3, cells := 1, slots := 2, locals := 52 } : Room).slots) := by
  refine MetFree.of_bodySF (plainFor_of_name own_pn1) hisR ?_
  intro p e s m args below meth c s₁ Bd hml0 hP hK
  obtain ⟨rfl, hZ, hh⟩ := hP
  have hx := Bd.exec
  have hby := Bd.bytes
  have hml : c.maxLocals = 2 := hml0
  have hown : s.vm.findClass "java/lang/String" = some m.cls := findClass_of_methodNamed Bd.named
  have hnm := (name_of_methodNamed Bd.named Bd.method).1
  have X0 : Stand p l e ({ frames := 3, cells := 1, slots := 2, locals := 52 } : Room) s m #[(.ref a), (.ref ca)] below meth c s₁ [] 0 0 := Stand.of_body Bd
  have e0 : s₁.heap = h0 := by rw [← hh, Bd.state]; rfl
  have N0 := Fr.nil n0
  refine own_begin (own_si1_2_ef m a ca kc cs x0 x1) ?_
  show Ends p.tables e below (s₁.setTop (mkF m 0 #[.val (.ref a), .val (.ref ca)] [])) _
  have Kr0 : Keep h0 h0 [a] := Keep.refl h0 _
  refine s_aloadN (pc' := 1) X0.here hx (hb hby own_d3_0) rfl rfl rfl ?_
  refine s_aloadN (pc' := 2) X0.here hx (hb hby own_d3_1) rfl rfl rfl ?_
  refine s_iconst (pc' := 3) X0.here hx (v := (0 : Int32)) (hb hby own_d3_2) rfl rfl ?_
  refine s_aloadN (pc' := 4) X0.here hx (hb hby own_d3_3) rfl rfl rfl ?_
  refine s_arraylength (pc' := 5) X0 hx hZ e0 V_c (hb hby own_d3_4) rfl ?_
  refine s_aconstNull (pc' := 6) X0.here hx (hb hby own_d3_5) rfl ?_
  refine s_callI (pc' := 9) (W := 0) X0 hx hZ  rfl hown (hw _ (List.mem_of_getElem? (i := 17) rfl)) (hw _ (List.mem_of_getElem? (i := 18) rfl)) (hw _ (List.mem_of_getElem? (i := 13) rfl)) (hw _ (List.mem_of_getElem? (i := 20) rfl)) (by decide) e0 (own_si4_2 l Z a0 hw [] a ca kc cs x0 x1 h0 n0 Z0 O0 S_cs hcs F_v F_c E_a g_a V_c le_x0 le_x1) a (by rw [hml]; rfl) [(.ref ca), (.int (0 : Int32)), (.int (2 : Int32)), .null] [] rfl (lenOf own_pd3 rfl) rfl (Nat.le_of_eq rfl) (by decide) (by decide) (by decide) (by decide) rfl (hb hby own_d3_6) fun T1 v1 Lc1 X1 hQ1 => ?_
  obtain ⟨b, kb, rfl, Nq1, Kq1, szb, Ea, Fc, Fv, Vb⟩ := hQ1
  have O2 := O0.keep Kq1 (allS g_a all0)
  have N1 := Fr.app N0 Nq1
  have f3 := E_a.keep Kq1
  have Z4 : n0 ≤ T1.heap.size := Nat.le_trans Z0 Kq1.1
  have K5 : Keep h0 T1.heap [a] := Kr0.trans Kq1 (allS (Or.inl (List.mem_of_getElem? (i := 0) rfl)) all0)
  show Ends p.tables e below (T1.setTop (mkF m 9 #[.val (.ref a), .val (.ref ca)] [])) _
  obtain ⟨fs, hr, hrun, hended, hW, hsame⟩ := X1.leave (v := none) (fun _ => rfl)
  refine ⟨_, _, X1.returnOut hx Bd.returns (hb hby own_d3_9) hr, hrun, hended, _, _, rfl, ?_, ⟨_, rfl⟩, hW, hsame.mono (by decide) (by decide)⟩
  show own_si1_2_Q Z a ca kc cs x0 x1 h0 n0 _ T1.heap _
  exact ⟨b, kb, rfl, N1, K5, szb, Ea, Fc, Fv, Vb⟩
theorem own_cm5_3_ef (m : MethodId) (ca : Addr) (b : Addr) (kc : ClassId) (k : ClassId) (x0 : Int32) (x1 : Int32) (x2 : Int32) : entryFrame m #[(.ref ca), (.int (0 : Int32)), (.ref b), (.int (0 : Int32)), (.int (3 : Int32))] 7 = mkF m 0 #[.val (.ref ca), .val (.int (0 : Int32)), .val (.ref b), .val (.int (0 : Int32)), .val (.int (3 : Int32)), .unset, .unset] [] := by first | (simp [entryFrame, mkF, argsToLocals, Value.category]; done) | rfl
def own_cm5_3_Q (Z : State) (ca : Addr) (b : Addr) (kc : ClassId) (k : ClassId) (x0 : Int32) (x1 : Int32) (x2 : Int32) (h0 : Heap) (n0 : Nat) (v : Option Value) (h : Heap) (L : List Loc) : Prop := v = some (.int (3 : Int32)) ∧ Fr n0 L ∧ Keep h0 h [b] ∧ Arv Z h b k .byte (3 : Int32) [(.int (nar .byte (x0.toInt8.toInt32))), (.int (nar .byte (x1.toInt8.toInt32))), (.int (nar .byte (x2.toInt8.toInt32)))] (.int (0 : Int32))
set_option maxRecDepth 65536 in
set_option maxHeartbeats 40000000 in
theorem own_cm5_3 (l : Launch) (Z : State) (a0 : Array Value) (hw : ∀ d ∈ tables_1, d.before a0 Z = true) (ws : List Jvm.Cond) (ca : Addr) (b : Addr) (kc : ClassId) (k : ClassId) (x0 : Int32) (x1 : Int32) (x2 : Int32) (h0 : Heap) (n0 : Nat) (Z0 : n0 ≤ h0.size) (V_c : Arv Z h0 ca kc .char (3 : Int32) [(.int x0), (.int x1), (.int x2)] (.int (0 : Int32))) (V_b : Arv Z h0 b k .byte (3 : Int32) [(.int (0 : Int32)), (.int (0 : Int32)), (.int (0 : Int32))] (.int (0 : Int32))) (ne_cb : ca ≠ b) (g_b : n0 ≤ b) (le_x0 : ¬ (255 : Int32) < x0) (le_x1 : ¬ (255 : Int32) < x1) (le_x2 : ¬ (255 : Int32) < x2) :
    MetFree l (⟨"java/lang/StringUTF16", "compress", "([CI[BII)I"⟩ : MethodName) (head1 (Jvm.Cond.code (⟨"java/lang/StringUTF16", "compress", "([CI[BII)I"⟩ : MethodName) jdk_52_method_21_code 7 (some .int) :: ws) ({ frames := 0, cells := 0, slots := 0, locals := 0 } : Room)) (fun as_ U => as_ = #[(.ref ca), (.int (0 : Int32)), (.ref b), (.int (0 : Int32)), (.int (3 : Int32))] ∧ Z.Warmed39 U.vm ∧ U.heap = h0) (fun _ _ _ _ _ => True) (fun _ U_ o_ V_ => ∃ v_ L_, o_ = .returned v_ ∧ own_cm5_3_Q Z ca b kc k x0 x1 x2 h0 n0 v_ V_.heap L_ ∧ FrameEnd U_ o_ V_ L_ ({ frames := 0, cells := 0, slots := 0, locals := 0 } : Room).cells ({ frames := 0, cells := 0, slots := 0, locals := 0 } : Room).slots) := by
  refine MetFree.of_bodySF (plainFor_of_name own_pn0) hisR ?_
  intro p e s m args below meth c s₁ Bd hml0 hP hK
  obtain ⟨rfl, hZ, hh⟩ := hP
  have hx := Bd.exec
  have hby := Bd.bytes
  have hml : c.maxLocals = 7 := hml0
  have hown : s.vm.findClass "java/lang/StringUTF16" = some m.cls := findClass_of_methodNamed Bd.named
  have hnm := (name_of_methodNamed Bd.named Bd.method).1
  have X0 : Stand p l e ({ frames := 0, cells := 0, slots := 0, locals := 0 } : Room) s m #[(.ref ca), (.int (0 : Int32)), (.ref b), (.int (0 : Int32)), (.int (3 : Int32))] below meth c s₁ [] 0 0 := Stand.of_body Bd
  have e0 : s₁.heap = h0 := by rw [← hh, Bd.state]; rfl
  have N0 := Fr.nil n0
  refine own_begin (own_cm5_3_ef m ca b kc k x0 x1 x2) ?_
  show Ends p.tables e below (s₁.setTop (mkF m 0 #[.val (.ref ca), .val (.int (0 : Int32)), .val (.ref b), .val (.int (0 : Int32)), .val (.int (3 : Int32)), .unset, .unset] [])) _
  have Kr0 : Keep h0 h0 [b] := Keep.refl h0 _
  refine s_iconst (pc' := 1) X0.here hx (v := (0 : Int32)) (hb hby own_d8_0) rfl rfl ?_
  refine s_istore (pc' := 3) X0.here hx (l' := #[.val (.ref ca), .val (.int (0 : Int32)), .val (.ref b), .val (.int (0 : Int32)), .val (.int (3 : Int32)), .val (.int (0 : Int32)), .unset]) (hb hby own_d8_1) rfl rfl ?_
  refine s_iload (pc' := 5) X0.here hx (hb hby own_d8_3) rfl rfl ?_
  refine s_iload (pc' := 7) X0.here hx (hb hby own_d8_5) rfl rfl ?_
  have hk1 : (0 : Int32) < (3 : Int32) := by decide
  refine s_icmpNo (pc' := 10) X0.here hx (hb hby own_d8_7) (tlt hk1).2.1 rfl ?_
  refine s_aloadN (pc' := 11) X0.here hx (hb hby own_d8_10) rfl rfl rfl ?_
  refine s_iloadN (pc' := 12) X0.here hx (hb hby own_d8_11) rfl rfl ?_
  refine s_caload (pc' := 13) (v := (.int x0)) X0 hx hZ e0 V_c ⟨by decide, by decide⟩ rfl (hb hby own_d8_12) rfl ?_
  refine s_istore (pc' := 15) X0.here hx (l' := #[.val (.ref ca), .val (.int (0 : Int32)), .val (.ref b), .val (.int (0 : Int32)), .val (.int (3 : Int32)), .val (.int (0 : Int32)), .val (.int x0)]) (hb hby own_d8_13) rfl rfl ?_
  refine s_iload (pc' := 17) X0.here hx (hb hby own_d8_15) rfl rfl ?_
  refine s_sipush (pc' := 20) X0.here hx (v := (255 : Int32)) (hb hby own_d8_17) rfl rfl ?_
  have hk2 : ¬ ((255 : Int32) < x0) := le_x0
  refine s_icmpYes (pc' := 26) X0.here hx (hb hby own_d8_20) (flt hk2).2.2.2 (by decide) (by decide) ?_
  refine s_aloadN (pc' := 27) X0.here hx (hb hby own_d8_26) rfl rfl rfl ?_
  refine s_iloadN (pc' := 28) X0.here hx (hb hby own_d8_27) rfl rfl ?_
  refine s_iload (pc' := 30) X0.here hx (hb hby own_d8_28) rfl rfl ?_
  refine s_i2b (pc' := 31) X0.here hx (hb hby own_d8_30) rfl ?_
  refine s_putB (pc' := 32) X0 hx hZ e0 V_b ⟨by decide, by decide⟩ 0 rfl (Nat.le_of_ble_eq_true rfl) (hb hby own_d8_31) rfl fun T3 hp3 X3 e3 W3 Vw3 => ?_
  have V4 : Arv Z hp3 b k .byte (3 : Int32) [(.int (nar .byte (x0.toInt8.toInt32))), (.int (0 : Int32)), (.int (0 : Int32))] (.int (0 : Int32)) := Vw3
  have N3 := Fr.snoc X3 N0 g_b
  have f5 := V_c.other W3 ne_cb
  have Z6 : n0 ≤ hp3.size := Nat.le_trans Z0 (Keep.of_wr W3).1
  have K7 : Keep h0 hp3 [b] := Kr0.wr W3 (Or.inl (List.mem_of_getElem? (i := 0) rfl))
  refine s_iinc (pc' := 35) X3.here hx (v := (1 : Int32)) (l' := #[.val (.ref ca), .val (.int ((0 : Int32) + (1 : Int32))), .val (.ref b), .val (.int (0 : Int32)), .val (.int (3 : Int32)), .val (.int (0 : Int32)), .val (.int x0)]) (hb hby own_d8_32) rfl rfl rfl rfl ?_
  refine s_iinc (pc' := 38) X3.here hx (v := (1 : Int32)) (l' := #[.val (.ref ca), .val (.int ((0 : Int32) + (1 : Int32))), .val (.ref b), .val (.int ((0 : Int32) + (1 : Int32))), .val (.int (3 : Int32)), .val (.int (0 : Int32)), .val (.int x0)]) (hb hby own_d8_35) rfl rfl rfl rfl ?_
  refine s_iinc (pc' := 41) X3.here hx (v := (1 : Int32)) (l' := #[.val (.ref ca), .val (.int ((0 : Int32) + (1 : Int32))), .val (.ref b), .val (.int ((0 : Int32) + (1 : Int32))), .val (.int (3 : Int32)), .val (.int ((0 : Int32) + (1 : Int32))), .val (.int x0)]) (hb hby own_d8_38) rfl rfl rfl rfl ?_
  refine s_goto (pc' := 3) X3.here hx (hb hby own_d8_41) (by decide) (by decide) ?_
  rw [show ((0 : Int32) + (1 : Int32)) = (1 : Int32) from by decide]
  refine s_iload (pc' := 5) X3.here hx (hb hby own_d8_3) rfl rfl ?_
  refine s_iload (pc' := 7) X3.here hx (hb hby own_d8_5) rfl rfl ?_
  have hk8 : (1 : Int32) < (3 : Int32) := by decide
  refine s_icmpNo (pc' := 10) X3.here hx (hb hby own_d8_7) (tlt hk8).2.1 rfl ?_
  refine s_aloadN (pc' := 11) X3.here hx (hb hby own_d8_10) rfl rfl rfl ?_
  refine s_iloadN (pc' := 12) X3.here hx (hb hby own_d8_11) rfl rfl ?_
  refine s_caload (pc' := 13) (v := (.int x1)) X3 hx hZ e3 f5 ⟨by decide, by decide⟩ rfl (hb hby own_d8_12) rfl ?_
  refine s_istore (pc' := 15) X3.here hx (l' := #[.val (.ref ca), .val (.int (1 : Int32)), .val (.ref b), .val (.int (1 : Int32)), .val (.int (3 : Int32)), .val (.int (1 : Int32)), .val (.int x1)]) (hb hby own_d8_13) rfl rfl ?_
  refine s_iload (pc' := 17) X3.here hx (hb hby own_d8_15) rfl rfl ?_
  refine s_sipush (pc' := 20) X3.here hx (v := (255 : Int32)) (hb hby own_d8_17) rfl rfl ?_
  have hk9 : ¬ ((255 : Int32) < x1) := le_x1
  refine s_icmpYes (pc' := 26) X3.here hx (hb hby own_d8_20) (flt hk9).2.2.2 (by decide) (by decide) ?_
  refine s_aloadN (pc' := 27) X3.here hx (hb hby own_d8_26) rfl rfl rfl ?_
  refine s_iloadN (pc' := 28) X3.here hx (hb hby own_d8_27) rfl rfl ?_
  refine s_iload (pc' := 30) X3.here hx (hb hby own_d8_28) rfl rfl ?_
  refine s_i2b (pc' := 31) X3.here hx (hb hby own_d8_30) rfl ?_
  refine s_putB (pc' := 32) X3 hx hZ e3 V4 ⟨by decide, by decide⟩ 1 rfl (Nat.le_of_ble_eq_true rfl) (hb hby own_d8_31) rfl fun T10 hp10 X10 e10 W10 Vw10 => ?_
  have V11 : Arv Z hp10 b k .byte (3 : Int32) [(.int (nar .byte (x0.toInt8.toInt32))), (.int (nar .byte (x1.toInt8.toInt32))), (.int (0 : Int32))] (.int (0 : Int32)) := Vw10
  have N10 := Fr.snoc X10 N3 g_b
  have f12 := f5.other W10 ne_cb
  have Z13 : n0 ≤ hp10.size := Nat.le_trans Z6 (Keep.of_wr W10).1
  have K14 : Keep h0 hp10 [b] := K7.wr W10 (Or.inl (List.mem_of_getElem? (i := 0) rfl))
  refine s_iinc (pc' := 35) X10.here hx (v := (1 : Int32)) (l' := #[.val (.ref ca), .val (.int ((1 : Int32) + (1 : Int32))), .val (.ref b), .val (.int (1 : Int32)), .val (.int (3 : Int32)), .val (.int (1 : Int32)), .val (.int x1)]) (hb hby own_d8_32) rfl rfl rfl rfl ?_
  refine s_iinc (pc' := 38) X10.here hx (v := (1 : Int32)) (l' := #[.val (.ref ca), .val (.int ((1 : Int32) + (1 : Int32))), .val (.ref b), .val (.int ((1 : Int32) + (1 : Int32))), .val (.int (3 : Int32)), .val (.int (1 : Int32)), .val (.int x1)]) (hb hby own_d8_35) rfl rfl rfl rfl ?_
  refine s_iinc (pc' := 41) X10.here hx (v := (1 : Int32)) (l' := #[.val (.ref ca), .val (.int ((1 : Int32) + (1 : Int32))), .val (.ref b), .val (.int ((1 : Int32) + (1 : Int32))), .val (.int (3 : Int32)), .val (.int ((1 : Int32) + (1 : Int32))), .val (.int x1)]) (hb hby own_d8_38) rfl rfl rfl rfl ?_
  refine s_goto (pc' := 3) X10.here hx (hb hby own_d8_41) (by decide) (by decide) ?_
  rw [show ((1 : Int32) + (1 : Int32)) = (2 : Int32) from by decide]
  refine s_iload (pc' := 5) X10.here hx (hb hby own_d8_3) rfl rfl ?_
  refine s_iload (pc' := 7) X10.here hx (hb hby own_d8_5) rfl rfl ?_
  have hk15 : (2 : Int32) < (3 : Int32) := by decide
  refine s_icmpNo (pc' := 10) X10.here hx (hb hby own_d8_7) (tlt hk15).2.1 rfl ?_
  refine s_aloadN (pc' := 11) X10.here hx (hb hby own_d8_10) rfl rfl rfl ?_
  refine s_iloadN (pc' := 12) X10.here hx (hb hby own_d8_11) rfl rfl ?_
  refine s_caload (pc' := 13) (v := (.int x2)) X10 hx hZ e10 f12 ⟨by decide, by decide⟩ rfl (hb hby own_d8_12) rfl ?_
  refine s_istore (pc' := 15) X10.here hx (l' := #[.val (.ref ca), .val (.int (2 : Int32)), .val (.ref b), .val (.int (2 : Int32)), .val (.int (3 : Int32)), .val (.int (2 : Int32)), .val (.int x2)]) (hb hby own_d8_13) rfl rfl ?_
  refine s_iload (pc' := 17) X10.here hx (hb hby own_d8_15) rfl rfl ?_
  refine s_sipush (pc' := 20) X10.here hx (v := (255 : Int32)) (hb hby own_d8_17) rfl rfl ?_
  have hk16 : ¬ ((255 : Int32) < x2) := le_x2
  refine s_icmpYes (pc' := 26) X10.here hx (hb hby own_d8_20) (flt hk16).2.2.2 (by decide) (by decide) ?_
  refine s_aloadN (pc' := 27) X10.here hx (hb hby own_d8_26) rfl rfl rfl ?_
  refine s_iloadN (pc' := 28) X10.here hx (hb hby own_d8_27) rfl rfl ?_
  refine s_iload (pc' := 30) X10.here hx (hb hby own_d8_28) rfl rfl ?_
  refine s_i2b (pc' := 31) X10.here hx (hb hby own_d8_30) rfl ?_
  refine s_putB (pc' := 32) X10 hx hZ e10 V11 ⟨by decide, by decide⟩ 2 rfl (Nat.le_of_ble_eq_true rfl) (hb hby own_d8_31) rfl fun T17 hp17 X17 e17 W17 Vw17 => ?_
  have V18 : Arv Z hp17 b k .byte (3 : Int32) [(.int (nar .byte (x0.toInt8.toInt32))), (.int (nar .byte (x1.toInt8.toInt32))), (.int (nar .byte (x2.toInt8.toInt32)))] (.int (0 : Int32)) := Vw17
  have N17 := Fr.snoc X17 N10 g_b
  have f19 := f12.other W17 ne_cb
  have Z20 : n0 ≤ hp17.size := Nat.le_trans Z13 (Keep.of_wr W17).1
  have K21 : Keep h0 hp17 [b] := K14.wr W17 (Or.inl (List.mem_of_getElem? (i := 0) rfl))
  refine s_iinc (pc' := 35) X17.here hx (v := (1 : Int32)) (l' := #[.val (.ref ca), .val (.int ((2 : Int32) + (1 : Int32))), .val (.ref b), .val (.int (2 : Int32)), .val (.int (3 : Int32)), .val (.int (2 : Int32)), .val (.int x2)]) (hb hby own_d8_32) rfl rfl rfl rfl ?_
  refine s_iinc (pc' := 38) X17.here hx (v := (1 : Int32)) (l' := #[.val (.ref ca), .val (.int ((2 : Int32) + (1 : Int32))), .val (.ref b), .val (.int ((2 : Int32) + (1 : Int32))), .val (.int (3 : Int32)), .val (.int (2 : Int32)), .val (.int x2)]) (hb hby own_d8_35) rfl rfl rfl rfl ?_
  refine s_iinc (pc' := 41) X17.here hx (v := (1 : Int32)) (l' := #[.val (.ref ca), .val (.int ((2 : Int32) + (1 : Int32))), .val (.ref b), .val (.int ((2 : Int32) + (1 : Int32))), .val (.int (3 : Int32)), .val (.int ((2 : Int32) + (1 : Int32))), .val (.int x2)]) (hb hby own_d8_38) rfl rfl rfl rfl ?_
  refine s_goto (pc' := 3) X17.here hx (hb hby own_d8_41) (by decide) (by decide) ?_
  rw [show ((2 : Int32) + (1 : Int32)) = (3 : Int32) from by decide]
  refine s_iload (pc' := 5) X17.here hx (hb hby own_d8_3) rfl rfl ?_
  refine s_iload (pc' := 7) X17.here hx (hb hby own_d8_5) rfl rfl ?_
  have hk22 : ¬ ((3 : Int32) < (3 : Int32)) := by decide
  refine s_icmpYes (pc' := 44) X17.here hx (hb hby own_d8_7) (flt hk22).2.1 (by decide) (by decide) ?_
  refine s_iload (pc' := 46) X17.here hx (hb hby own_d8_44) rfl rfl ?_
  obtain ⟨fs, hr, hrun, hended, hW, hsame⟩ := X17.leave (v := some (.int (3 : Int32))) (fun h => by rw [Bd.returns] at h; cases h)
  refine ⟨_, _, retOut X17 hx Bd.returns rfl (Or.inl ⟨rfl, Or.inl rfl, _, rfl⟩) (hb hby own_d8_46) hr, hrun, hended, _, _, rfl, ?_, ⟨_, rfl⟩, hW, hsame.mono (by decide) (by decide)⟩
  show own_cm5_3_Q Z ca b kc k x0 x1 x2 h0 n0 _ T17.heap _
  rw [e17]
  exact ⟨rfl, N17, K21, V18⟩
theorem own_cm3_3_ef (m : MethodId) (ca : Addr) (kc : ClassId) (x0 : Int32) (x1 : Int32) (x2 : Int32) : entryFrame m #[(.ref ca), (.int (0 : Int32)), (.int (3 : Int32))] 6 = mkF m 0 #[.val (.ref ca), .val (.int (0 : Int32)), .val (.int (3 : Int32)), .unset, .unset, .unset] [] := by first | (simp [entryFrame, mkF, argsToLocals, Value.category]; done) | rfl
def own_cm3_3_Q (Z : State) (ca : Addr) (kc : ClassId) (x0 : Int32) (x1 : Int32) (x2 : Int32) (h0 : Heap) (n0 : Nat) (v : Option Value) (h : Heap) (L : List Loc) : Prop := ∃ b kb, v = some (.ref b) ∧ Fr n0 L ∧ Keep h0 h [] ∧ h0.size ≤ b ∧ Arv Z h b kb .byte (3 : Int32) [(.int (nar .byte (x0.toInt8.toInt32))), (.int (nar .byte (x1.toInt8.toInt32))), (.int (nar .byte (x2.toInt8.toInt32)))] (.int (0 : Int32))
set_option maxRecDepth 65536 in
set_option maxHeartbeats 40000000 in
theorem own_cm3_3 (l : Launch) (Z : State) (a0 : Array Value) (hw : ∀ d ∈ tables_1, d.before a0 Z = true) (ws : List Jvm.Cond) (ca : Addr) (kc : ClassId) (x0 : Int32) (x1 : Int32) (x2 : Int32) (h0 : Heap) (n0 : Nat) (Z0 : n0 ≤ h0.size) (V_c : Arv Z h0 ca kc .char (3 : Int32) [(.int x0), (.int x1), (.int x2)] (.int (0 : Int32))) (le_x0 : ¬ (255 : Int32) < x0) (le_x1 : ¬ (255 : Int32) < x1) (le_x2 : ¬ (255 : Int32) < x2) :
    MetFree l (⟨"java/lang/StringUTF16", "compress", "([CII)[B"⟩ : MethodName) (head1 (Jvm.Cond.code (⟨"java/lang/StringUTF16", "compress", "([CII)[B"⟩ : MethodName) jdk_52_method_16_code 6 (some (.array .byte)) :: ws) ({ frames := 1, cells := 1, slots := 3, locals := 18 } : Room)) (fun as_ U => as_ = #[(.ref ca), (.int (0 : Int32)), (.int (3 : Int32))] ∧ Z.Warmed39 U.vm ∧ U.heap = h0) (fun _ _ _ _ _ => True) (fun _ U_ o_ V_ => ∃ v_ L_, o_ = .returned v_ ∧ own_cm3_3_Q Z ca kc x0 x1 x2 h0 n0 v_ V_.heap L_ ∧ FrameEnd U_ o_ V_ L_ ({ frames := 1, cells := 1, slots := 3, locals := 18 } : Room).cells ({ frames := 1, cells := 1, slots := 3, locals := 18 } : Room).slots) := by
  refine MetFree.of_bodySF (plainFor_of_name own_pn0) hisR ?_
  intro p e s m args below meth c s₁ Bd hml0 hP hK
  obtain ⟨rfl, hZ, hh⟩ := hP
  have hx := Bd.exec
  have hby := Bd.bytes
  have hml : c.maxLocals = 6 := hml0
  have hown : s.vm.findClass "java/lang/StringUTF16" = some m.cls := findClass_of_methodNamed Bd.named
  have hnm := (name_of_methodNamed Bd.named Bd.method).1
  have X0 : Stand p l e ({ frames := 1, cells := 1, slots := 3, locals := 18 } : Room) s m #[(.ref ca), (.int (0 : Int32)), (.int (3 : Int32))] below meth c s₁ [] 0 0 := Stand.of_body Bd
  have e0 : s₁.heap = h0 := by rw [← hh, Bd.state]; rfl
  have N0 := Fr.nil n0
  refine own_begin (own_cm3_3_ef m ca kc x0 x1 x2) ?_
  show Ends p.tables e below (s₁.setTop (mkF m 0 #[.val (.ref ca), .val (.int (0 : Int32)), .val (.int (3 : Int32)), .unset, .unset, .unset] [])) _
  have Kr0 : Keep h0 h0 [] := Keep.refl h0 _
  refine s_iloadN (pc' := 1) X0.here hx (hb hby own_d7_0) rfl rfl ?_
  refine s_newP (pc' := 3) (cap := 3) X0 hx hZ (hw _ (List.mem_of_getElem? (i := 25) rfl)) e0 (hb hby own_d7_1) (by decide) (by decide) (by decide) (by decide) (by decide) rfl fun T1 hp1 X1 e1 ka1 E1 b gq1 A1 => ?_
  have g_b : n0 ≤ b := Nat.le_trans Z0 (Nat.le_of_eq gq1.symm)
  have sz_b : h0.size ≤ b := Nat.le_trans Kr0.1 (Nat.le_of_eq gq1.symm)
  have ne2 : ca ≠ b := Nat.ne_of_lt (Nat.lt_of_lt_of_le V_c.lt (Nat.le_of_eq gq1.symm))
  have f3 := V_c.ext E1
  have Z4 : n0 ≤ hp1.size := Nat.le_trans Z0 E1.1
  have K5 : Keep h0 hp1 [] := Kr0.ext E1
  have V6 : Arv Z hp1 b ka1 .byte (3 : Int32) [(.int (0 : Int32)), (.int (0 : Int32)), (.int (0 : Int32))] (.int (0 : Int32)) := (Arv.new A1 (by decide)).pad (pad_rep [] (.int (0 : Int32)) 3)
  refine s_astoreN (pc' := 4) X1.here hx (l' := #[.val (.ref ca), .val (.int (0 : Int32)), .val (.int (3 : Int32)), .val (.ref b), .unset, .unset]) (hb hby own_d7_3) rfl rfl rfl ?_
  refine s_aloadN (pc' := 5) X1.here hx (hb hby own_d7_4) rfl rfl rfl ?_
  refine s_iloadN (pc' := 6) X1.here hx (hb hby own_d7_5) rfl rfl ?_
  refine s_aloadN (pc' := 7) X1.here hx (hb hby own_d7_6) rfl rfl rfl ?_
  refine s_iconst (pc' := 8) X1.here hx (v := (0 : Int32)) (hb hby own_d7_7) rfl rfl ?_
  refine s_iloadN (pc' := 9) X1.here hx (hb hby own_d7_8) rfl rfl ?_
  refine s_callS (pc' := 12) (W := 0) X1 hx hZ  hown (hw _ (List.mem_of_getElem? (i := 40) rfl)) (hw _ (List.mem_of_getElem? (i := 41) rfl)) (hw _ (List.mem_of_getElem? (i := 38) rfl)) (hw _ (List.mem_of_getElem? (i := 42) rfl)) (by decide) e1 (own_cm5_3 l Z a0 hw [] ca b kc ka1 x0 x1 x2 hp1 n0 Z4 f3 V6 ne2 g_b le_x0 le_x1 le_x2) (by rw [hml]; rfl) [(.ref ca), (.int (0 : Int32)), (.ref b), (.int (0 : Int32)), (.int (3 : Int32))] [] rfl (lenOf own_pd0 rfl) rfl (Nat.le_of_eq rfl) (by decide) (by decide) (by decide) (by decide) rfl (hb hby own_d7_9) fun T7 v7 Lc7 X7 hQ7 => ?_
  obtain ⟨rfl, Nq7, Kq7, Vb⟩ := hQ7
  have N7 := Fr.app N0 Nq7
  have f8 := f3.keep Kq7 (ninS ne2 nin0)
  have Z9 : n0 ≤ T7.heap.size := Nat.le_trans Z4 Kq7.1
  have K10 : Keep h0 T7.heap [] := K5.trans Kq7 (allS (Or.inr sz_b) all0)
  show Ends p.tables e below (T7.setTop (mkF m 12 #[.val (.ref ca), .val (.int (0 : Int32)), .val (.int (3 : Int32)), .val (.ref b), .unset, .unset] [(.int (3 : Int32))])) _
  refine s_istore (pc' := 14) X7.here hx (l' := #[.val (.ref ca), .val (.int (0 : Int32)), .val (.int (3 : Int32)), .val (.ref b), .val (.int (3 : Int32)), .unset]) (hb hby own_d7_12) rfl rfl ?_
  refine s_iload (pc' := 16) X7.here hx (hb hby own_d7_14) rfl rfl ?_
  refine s_iloadN (pc' := 17) X7.here hx (hb hby own_d7_16) rfl rfl ?_
  have hk11 : (3 : Int32) = (3 : Int32) := rfl
  refine s_icmpYes (pc' := 57) X7.here hx (hb hby own_d7_17) (teq hk11).1 (by decide) (by decide) ?_
  refine s_aloadN (pc' := 58) X7.here hx (hb hby own_d7_57) rfl rfl rfl ?_
  obtain ⟨fs, hr, hrun, hended, hW, hsame⟩ := X7.leave (v := some (.ref b)) (fun h => by rw [Bd.returns] at h; cases h)
  refine ⟨_, _, retOut X7 hx Bd.returns rfl (Or.inr (Or.inr (Or.inr (Or.inr ⟨rfl, rfl, rfl⟩)))) (hb hby own_d7_58) hr, hrun, hended, _, _, rfl, ?_, ⟨_, rfl⟩, hW, hsame.mono (by decide) (by decide)⟩
  show own_cm3_3_Q Z ca kc x0 x1 x2 h0 n0 _ T7.heap _
  exact ⟨b, ka1, rfl, N7, K10, sz_b, Vb⟩
theorem own_cfl_3_ef (m : MethodId) (b : Addr) (k : ClassId) (vs : List Value) : entryFrame m #[(.ref b), (.int (3 : Int32))] 2 = mkF m 0 #[.val (.ref b), .val (.int (3 : Int32))] [] := by first | (simp [entryFrame, mkF, argsToLocals, Value.category]; done) | rfl
def own_cfl_3_Q (Z : State) (b : Addr) (k : ClassId) (vs : List Value) (h0 : Heap) (n0 : Nat) (v : Option Value) (h : Heap) (L : List Loc) : Prop := v = some (.int 0) ∧ Fr n0 L ∧ h = h0
set_option maxRecDepth 65536 in
set_option maxHeartbeats 40000000 in
theorem own_cfl_3 (l : Launch) (Z : State) (a0 : Array Value) (hw : ∀ d ∈ tables_1, d.before a0 Z = true) (ws : List Jvm.Cond) (b : Addr) (k : ClassId) (vs : List Value) (h0 : Heap) (n0 : Nat) (Z0 : n0 ≤ h0.size) (V_b : Arv Z h0 b k .byte (3 : Int32) vs (.int (0 : Int32))) :
    MetFree l (⟨"java/lang/StringUTF16", "coderFromArrayLen", "([BI)B"⟩ : MethodName) (head1 (Jvm.Cond.code (⟨"java/lang/StringUTF16", "coderFromArrayLen", "([BI)B"⟩ : MethodName) jdk_52_method_15_code 2 (some .byte) :: ws) ({ frames := 0, cells := 0, slots := 0, locals := 0 } : Room)) (fun as_ U => as_ = #[(.ref b), (.int (3 : Int32))] ∧ Z.Warmed39 U.vm ∧ U.heap = h0) (fun _ _ _ _ _ => True) (fun _ U_ o_ V_ => ∃ v_ L_, o_ = .returned v_ ∧ own_cfl_3_Q Z b k vs h0 n0 v_ V_.heap L_ ∧ FrameEnd U_ o_ V_ L_ ({ frames := 0, cells := 0, slots := 0, locals := 0 } : Room).cells ({ frames := 0, cells := 0, slots := 0, locals := 0 } : Room).slots) := by
  refine MetFree.of_bodySF (plainFor_of_name own_pn0) hisR ?_
  intro p e s m args below meth c s₁ Bd hml0 hP hK
  obtain ⟨rfl, hZ, hh⟩ := hP
  have hx := Bd.exec
  have hby := Bd.bytes
  have hml : c.maxLocals = 2 := hml0
  have hown : s.vm.findClass "java/lang/StringUTF16" = some m.cls := findClass_of_methodNamed Bd.named
  have hnm := (name_of_methodNamed Bd.named Bd.method).1
  have X0 : Stand p l e ({ frames := 0, cells := 0, slots := 0, locals := 0 } : Room) s m #[(.ref b), (.int (3 : Int32))] below meth c s₁ [] 0 0 := Stand.of_body Bd
  have e0 : s₁.heap = h0 := by rw [← hh, Bd.state]; rfl
  have N0 := Fr.nil n0
  refine own_begin (own_cfl_3_ef m b k vs) ?_
  show Ends p.tables e below (s₁.setTop (mkF m 0 #[.val (.ref b), .val (.int (3 : Int32))] [])) _
  refine s_iloadN (pc' := 1) X0.here hx (hb hby own_d9_0) rfl rfl ?_
  refine s_aloadN (pc' := 2) X0.here hx (hb hby own_d9_1) rfl rfl rfl ?_
  refine s_arraylength (pc' := 3) X0 hx hZ e0 V_b (hb hby own_d9_2) rfl ?_
  refine s_isub (pc' := 4) X0.here hx (hb hby own_d9_3) rfl ?_
  refine s_bipush (pc' := 6) X0.here hx (v := (31 : Int32)) (hb hby own_d9_4) rfl rfl ?_
  refine s_iushr (pc' := 7) X0.here hx (hb hby own_d9_6) rfl ?_
  refine s_i2b (pc' := 8) X0.here hx (hb hby own_d9_7) rfl ?_
  obtain ⟨fs, hr, hrun, hended, hW, hsame⟩ := X0.leave (v := some (.int (0 : Int32))) (fun h => by rw [Bd.returns] at h; cases h)
  refine ⟨_, _, retN X0 hx (t := .byte) Bd.returns (by simp) (hb hby own_d9_8) hr, hrun, hended, _, _, rfl, ?_, ⟨_, rfl⟩, hW, hsame.mono (by decide) (by decide)⟩
  show own_cfl_3_Q Z b k vs h0 n0 _ s₁.heap _
  rw [e0]
  exact ⟨rfl, N0, rfl⟩
theorem own_si4_3_ef (m : MethodId) (a : Addr) (ca : Addr) (kc : ClassId) (cs : Int32) (x0 : Int32) (x1 : Int32) (x2 : Int32) : entryFrame m #[(.ref a), (.ref ca), (.int (0 : Int32)), (.int (3 : Int32)), .null] 6 = mkF m 0 #[.val (.ref a), .val (.ref ca), .val (.int (0 : Int32)), .val (.int (3 : Int32)), .val .null, .unset] [] := by first | (simp [entryFrame, mkF, argsToLocals, Value.category]; done) | rfl
def own_si4_3_Q (Z : State) (a : Addr) (ca : Addr) (kc : ClassId) (cs : Int32) (x0 : Int32) (x1 : Int32) (x2 : Int32) (h0 : Heap) (n0 : Nat) (v : Option Value) (h : Heap) (L : List Loc) : Prop := ∃ b kb, v = none ∧ Fr n0 L ∧ Keep h0 h [a] ∧ h0.size ≤ b ∧ Exa Z h a "java/lang/String" ∧ Fld Z h a "java/lang/String" "coder" "B" (.int (0 : Int32)) ∧ Fld Z h a "java/lang/String" "value" "[B" (.ref b) ∧ Arv Z h b kb .byte (3 : Int32) [(.int (nar .byte (x0.toInt8.toInt32))), (.int (nar .byte (x1.toInt8.toInt32))), (.int (nar .byte (x2.toInt8.toInt32)))] (.int (0 : Int32))
set_option maxRecDepth 65536 in
set_option maxHeartbeats 40000000 in
theorem own_si4_3 (l : Launch) (Z : State) (a0 : Array Value) (hw : ∀ d ∈ tables_1, d.before a0 Z = true) (ws : List Jvm.Cond) (a : Addr) (ca : Addr) (kc : ClassId) (cs : Int32) (x0 : Int32) (x1 : Int32) (x2 : Int32) (h0 : Heap) (n0 : Nat) (Z0 : n0 ≤ h0.size) (O0 : Old Z n0 h0) (S_cs : Sta Z Z.heap "java/lang/String" "COMPACT_STRINGS" "Z" (.int cs)) (hcs : ¬ cs = (0 : Int32)) (F_v : Fld Z h0 a "java/lang/String" "value" "[B" .null) (F_c : Fld Z h0 a "java/lang/String" "coder" "B" (.int (0 : Int32))) (E_a : Exa Z h0 a "java/lang/String") (g_a : n0 ≤ a) (V_c : Arv Z h0 ca kc .char (3 : Int32) [(.int x0), (.int x1), (.int x2)] (.int (0 : Int32))) (le_x0 : ¬ (255 : Int32) < x0) (le_x1 : ¬ (255 : Int32) < x1) (le_x2 : ¬ (255 : Int32) < x2) :
    MetFree l (⟨"java/lang/String", "<init>", "([CIILjava/lang/Void;)V"⟩ : MethodName) (head1 (Jvm.Cond.code (⟨"java/lang/String", "<init>", "([CIILjava/lang/Void;)V"⟩ : MethodName) jdk_42_method_149_code 6 none :: ws) ({ frames := 2, cells := 1, slots := 3, locals := 35 } : Room)) (fun as_ U => as_ = #[(.ref a), (.ref ca), (.int (0 : Int32)), (.int (3 : Int32)), .null] ∧ Z.Warmed39 U.vm ∧ U.heap = h0) (fun _ _ _ _ _ => True) (fun _ U_ o_ V_ => ∃ v_ L_, o_ = .returned v_ ∧ own_si4_3_Q Z a ca kc cs x0 x1 x2 h0 n0 v_ V_.heap L_ ∧ FrameEnd U_ o_ V_ L_ ({ frames := 2, cells := 1, slots := 3, locals := 35 } : Room).cells ({ frames := 2, cells := 1, slots := 3, locals := 35 } : Room).slots) := by
  refine MetFree.of_bodySF (plainFor_of_name own_pn1) hisR ?_
  intro p e s m args below meth c s₁ Bd hml0 hP hK
  obtain ⟨rfl, hZ, hh⟩ := hP
  have hx := Bd.exec
  have hby := Bd.bytes
  have hml : c.maxLocals = 6 := hml0
  have hown : s.vm.findClass "java/lang/String" = some m.cls := findClass_of_methodNamed Bd.named
  have hnm := (name_of_methodNamed Bd.named Bd.method).1
  have X0 : Stand p l e ({ frames := 2, cells := 1, slots := 3, locals := 35 } : Room) s m #[(.ref a), (.ref ca), (.int (0 : Int32)), (.int (3 : Int32)), .null] below meth c s₁ [] 0 0 := Stand.of_body Bd
  have e0 : s₁.heap = h0 := by rw [← hh, Bd.state]; rfl
  have N0 := Fr.nil n0
  refine own_begin (own_si4_3_ef m a ca kc cs x0 x1 x2) ?_
  show Ends p.tables e below (s₁.setTop (mkF m 0 #[.val (.ref a), .val (.ref ca), .val (.int (0 : Int32)), .val (.int (3 : Int32)), .val .null, .unset] [])) _
  have Kr0 : Keep h0 h0 [a] := Keep.refl h0 _
  refine s_aloadN (pc' := 1) X0.here hx (hb hby own_d4_0) rfl rfl rfl ?_
  refine s_initO (pc' := 4) (W := 0) X0 hx hZ hown (hw _ (List.mem_of_getElem? (i := 21) rfl)) (hw _ (List.mem_of_getElem? (i := 22) rfl)) (hw _ (List.mem_of_getElem? (i := 23) rfl)) e0 (by rw [hml]; rfl) (hb hby own_d4_1) (by decide) (Nat.le_of_eq rfl) (by decide) rfl fun T1 X1 e1 => ?_
  refine s_iloadN (pc' := 5) X1.here hx (hb hby own_d4_4) rfl rfl ?_
  have hk2 : ¬ ((3 : Int32) = (0 : Int32)) := by decide
  refine s_ifYes (pc' := 27) X1.here hx (hb hby own_d4_5) ((if0 _ _).trans (feq hk2).2) (by decide) (by decide) ?_
  refine s_getS (pc' := 30) X1 hx hZ hown (host := "") (Or.inl (hw _ (List.mem_of_getElem? (i := 35) rfl))) Via.refl e1 (S_cs.ext O0.2) (hb hby own_d4_27) rfl fun T3 X3 e3 => ?_
  have hk4 : ¬ (cs = (0 : Int32)) := hcs
  refine s_ifNo (pc' := 33) X3.here hx (hb hby own_d4_30) ((if0 _ _).trans (feq hk4).1) rfl ?_
  refine s_aloadN (pc' := 34) X3.here hx (hb hby own_d4_33) rfl rfl rfl ?_
  refine s_iloadN (pc' := 35) X3.here hx (hb hby own_d4_34) rfl rfl ?_
  refine s_iloadN (pc' := 36) X3.here hx (hb hby own_d4_35) rfl rfl ?_
  refine s_callS (pc' := 39) (W := 0) X3 hx hZ  hown (hw _ (List.mem_of_getElem? (i := 36) rfl)) (hw _ (List.mem_of_getElem? (i := 37) rfl)) (hw _ (List.mem_of_getElem? (i := 38) rfl)) (hw _ (List.mem_of_getElem? (i := 39) rfl)) (by decide) e3 (own_cm3_3 l Z a0 hw [] ca kc x0 x1 x2 h0 n0 Z0 V_c le_x0 le_x1 le_x2) (by rw [hml]; rfl) [(.ref ca), (.int (0 : Int32)), (.int (3 : Int32))] [] rfl (lenOf own_pd1 rfl) rfl (Nat.le_of_eq rfl) (by decide) (by decide) (by decide) (by decide) rfl (hb hby own_d4_36) fun T5 v5 Lc5 X5 hQ5 => ?_
  obtain ⟨b, kb, rfl, Nq5, Kq5, szb, Vb⟩ := hQ5
  have g_b : n0 ≤ b := Nat.le_trans Z0 szb
  have sz_b : h0.size ≤ b := Nat.le_trans Kr0.1 szb
  have ne6 : a ≠ b := Nat.ne_of_lt (Nat.lt_of_lt_of_le F_v.lt szb)
  have ne7 : ca ≠ b := Nat.ne_of_lt (Nat.lt_of_lt_of_le V_c.lt szb)
  have O8 := O0.keep Kq5 all0
  have N5 := Fr.app N0 Nq5
  have f9 := F_v.keep Kq5 nin0
  have f10 := F_c.keep Kq5 nin0
  have f11 := E_a.keep Kq5
  have f12 := V_c.keep Kq5 nin0
  have Z13 : n0 ≤ T5.heap.size := Nat.le_trans Z0 Kq5.1
  have K14 : Keep h0 T5.heap [a] := Kr0.trans Kq5 all0
  show Ends p.tables e below (T5.setTop (mkF m 39 #[.val (.ref a), .val (.ref ca), .val (.int (0 : Int32)), .val (.int (3 : Int32)), .val .null, .unset] [(.ref b)])) _
  refine s_astore (pc' := 41) X5.here hx (l' := #[.val (.ref a), .val (.ref ca), .val (.int (0 : Int32)), .val (.int (3 : Int32)), .val .null, .val (.ref b)]) (hb hby own_d4_39) rfl rfl rfl ?_
  refine s_aloadN (pc' := 42) X5.here hx (hb hby own_d4_41) rfl rfl rfl ?_
  refine s_aload (pc' := 44) X5.here hx (hb hby own_d4_42) rfl rfl rfl ?_
  refine s_iloadN (pc' := 45) X5.here hx (hb hby own_d4_44) rfl rfl ?_
  refine s_callS (pc' := 48) (W := 1) X5 hx hZ  hown (hw _ (List.mem_of_getElem? (i := 43) rfl)) (hw _ (List.mem_of_getElem? (i := 44) rfl)) (hw _ (List.mem_of_getElem? (i := 38) rfl)) (hw _ (List.mem_of_getElem? (i := 45) rfl)) (by decide) rfl (own_cfl_3 l Z a0 hw [] b kb [(.int (nar .byte (x0.toInt8.toInt32))), (.int (nar .byte (x1.toInt8.toInt32))), (.int (nar .byte (x2.toInt8.toInt32)))] T5.heap n0 Z13 Vb) (by rw [hml]; rfl) [(.ref b), (.int (3 : Int32))] [(.ref a)] rfl (lenOf own_pd2 rfl) rfl (Nat.le_of_eq rfl) (by decide) (by decide) (by decide) (by decide) rfl (hb hby own_d4_45) fun T15 v15 Lc15 X15 hQ15 => ?_
  obtain ⟨rfl, Nq15, eh15⟩ := hQ15
  have N15 := Fr.app N5 Nq15
  show Ends p.tables e below (T15.setTop (mkF m 48 #[.val (.ref a), .val (.ref ca), .val (.int (0 : Int32)), .val (.int (3 : Int32)), .val .null, .val (.ref b)] [(.int (0 : Int32)), (.ref a)])) _
  refine s_putFN (pc' := 51) (v' := (.int (0 : Int32))) (ty := .byte) X15 hx hZ hown (hw _ (List.mem_of_getElem? (i := 31) rfl)) Via.refl eh15 f10 f11 (Or.inr ⟨(hw _ (List.mem_of_getElem? (i := 27) rfl)), rfl, hnm⟩) (hw _ (List.mem_of_getElem? (i := 12) rfl)) (by decide) rfl rfl (hb hby own_d4_48) rfl fun T16 hp16 X16 e16 W16 => ?_
  have N16 := Fr.snoc X16 N15 g_a
  have O17 := O8.wr W16 g_a
  have f18 := f9.other W16 (Or.inr (slot_ne (Or.inr (hw _ (List.mem_of_getElem? (i := 26) rfl))) (Or.inr (hw _ (List.mem_of_getElem? (i := 27) rfl))) (by decide) (t := (.array .byte)) (t' := .byte) (by decide) (by decide)))
  have f19 := f10.same W16
  have f20 := f11.wr W16
  have f21 := Vb.other W16 (Ne.symm ne6)
  have Z22 : n0 ≤ hp16.size := Nat.le_trans Z13 (Keep.of_wr W16).1
  have K23 : Keep h0 hp16 [a] := K14.wr W16 (Or.inl (List.mem_of_getElem? (i := 0) rfl))
  refine s_aloadN (pc' := 52) X16.here hx (hb hby own_d4_51) rfl rfl rfl ?_
  refine s_aload (pc' := 54) X16.here hx (hb hby own_d4_52) rfl rfl rfl ?_
  refine s_putF (pc' := 57) (ty := (.array .byte)) X16 hx hZ hown (host := "") (Or.inl (hw _ (List.mem_of_getElem? (i := 30) rfl))) Via.refl e16 f18 f20 (Or.inr ⟨(hw _ (List.mem_of_getElem? (i := 26) rfl)), rfl, hnm⟩) (hw _ (List.mem_of_getElem? (i := 12) rfl)) (by decide) rfl rfl (hb hby own_d4_54) rfl fun T24 hp24 X24 e24 W24 => ?_
  have N24 := Fr.snoc X24 N16 g_a
  have O25 := O17.wr W24 g_a
  have f26 := f18.same W24
  have f27 := f19.other W24 (Or.inr (slot_ne (Or.inr (hw _ (List.mem_of_getElem? (i := 27) rfl))) (Or.inr (hw _ (List.mem_of_getElem? (i := 26) rfl))) (by decide) (t := .byte) (t' := (.array .byte)) (by decide) (by decide)))
  have f28 := f20.wr W24
  have f29 := f21.other W24 (Ne.symm ne6)
  have Z30 : n0 ≤ hp24.size := Nat.le_trans Z22 (Keep.of_wr W24).1
  have K31 : Keep h0 hp24 [a] := K23.wr W24 (Or.inl (List.mem_of_getElem? (i := 0) rfl))
  obtain ⟨fs, hr, hrun, hended, hW, hsame⟩ := X24.leave (v := none) (fun _ => rfl)
  refine ⟨_, _, X24.returnOut hx Bd.returns (hb hby own_d4_57) hr, hrun, hended, _, _, rfl, ?_, ⟨_, rfl⟩, hW, hsame.mono (by decide) (by decide)⟩
  show own_si4_3_Q Z a ca kc cs x0 x1 x2 h0 n0 _ T24.heap _
  rw [e24]
  exact ⟨b, kb, rfl, N24, K31, sz_b, f28, f27, f26, f29⟩
theorem own_si1_3_ef (m : MethodId) (a : Addr) (ca : Addr) (kc : ClassId) (cs : Int32) (x0 : Int32) (x1 : Int32) (x2 : Int32) : entryFrame m #[(.ref a), (.ref ca)] 2 = mkF m 0 #[.val (.ref a), .val (.ref ca)] [] := by first | (simp [entryFrame, mkF, argsToLocals, Value.category]; done) | rfl
def own_si1_3_Q (Z : State) (a : Addr) (ca : Addr) (kc : ClassId) (cs : Int32) (x0 : Int32) (x1 : Int32) (x2 : Int32) (h0 : Heap) (n0 : Nat) (v : Option Value) (h : Heap) (L : List Loc) : Prop := ∃ b kb, v = none ∧ Fr n0 L ∧ Keep h0 h [a] ∧ h0.size ≤ b ∧ Exa Z h a "java/lang/String" ∧ Fld Z h a "java/lang/String" "coder" "B" (.int (0 : Int32)) ∧ Fld Z h a "java/lang/String" "value" "[B" (.ref b) ∧ Arv Z h b kb .byte (3 : Int32) [(.int (nar .byte (x0.toInt8.toInt32))), (.int (nar .byte (x1.toInt8.toInt32))), (.int (nar .byte (x2.toInt8.toInt32)))] (.int (0 : Int32))
set_option maxRecDepth 65536 in
set_option maxHeartbeats 40000000 in
theorem own_si1_3 (l : Launch) (Z : State) (a0 : Array Value) (hw : ∀ d ∈ tables_1, d.before a0 Z = true) (ws : List Jvm.Cond) (a : Addr) (ca : Addr) (kc : ClassId) (cs : Int32) (x0 : Int32) (x1 : Int32) (x2 : Int32) (h0 : Heap) (n0 : Nat) (Z0 : n0 ≤ h0.size) (O0 : Old Z n0 h0) (S_cs : Sta Z Z.heap "java/lang/String" "COMPACT_STRINGS" "Z" (.int cs)) (hcs : ¬ cs = (0 : Int32)) (F_v : Fld Z h0 a "java/lang/String" "value" "[B" .null) (F_c : Fld Z h0 a "java/lang/String" "coder" "B" (.int (0 : Int32))) (E_a : Exa Z h0 a "java/lang/String") (g_a : n0 ≤ a) (V_c : Arv Z h0 ca kc .char (3 : Int32) [(.int x0), (.int x1), (.int x2)] (.int (0 : Int32))) (le_x0 : ¬ (255 : Int32) < x0) (le_x1 : ¬ (255 : Int32) < x1) (le_x2 : ¬ (255 : Int32) < x2) :
    MetFree l (⟨"java/lang/String", "<init>", "([C)V"⟩ : MethodName) (head1 (Jvm.Cond.code (⟨"java/lang/String", "<init>", "([C)V"⟩ : MethodName) jdk_42_method_3_code 2 none :: ws) ({ frames := 3, cells := 1, slots := 3, locals := 52 } : Room)) (fun as_ U => as_ = #[(.ref a), (.ref ca)] ∧ Z.Warmed39 U.vm ∧ U.heap = h0) (fun _ _ _ _ _ => True) (fun _ U_ o_ V_ => ∃ v_ L_, o_ = .returned v_ ∧ own_si1_3_Q Z a ca kc cs x0 x1 x2 h0 n0 v_ V_.heap L_ ∧ FrameEnd U_ o_ V_ L_ ({ frames := 3, cells := 1, slots := 3, locals := 52 } : Room).cells ({ frames := 3, cells := 1, slots := 3, locals := 52 } : Room).slots) := by
  refine MetFree.of_bodySF (plainFor_of_name own_pn1) hisR ?_
  intro p e s m args below meth c s₁ Bd hml0 hP hK
  obtain ⟨rfl, hZ, hh⟩ := hP
  have hx := Bd.exec
  have hby := Bd.bytes
  have hml : c.maxLocals = 2 := hml0
  have hown : s.vm.findClass "java/lang/String" = some m.cls := findClass_of_methodNamed Bd.named
  have hnm := (name_of_methodNamed Bd.named Bd.method).1
  have X0 : Stand p l e ({ frames := 3, cells := 1, slots := 3, locals := 52 } : Room) s m #[(.ref a), (.ref ca)] below meth c s₁ [] 0 0 := Stand.of_body Bd
  have e0 : s₁.heap = h0 := by rw [← hh, Bd.state]; rfl
  have N0 := Fr.nil n0
  refine own_begin (own_si1_3_ef m a ca kc cs x0 x1 x2) ?_
  show Ends p.tables e below (s₁.setTop (mkF m 0 #[.val (.ref a), .val (.ref ca)] [])) _
  have Kr0 : Keep h0 h0 [a] := Keep.refl h0 _
  refine s_aloadN (pc' := 1) X0.here hx (hb hby own_d3_0) rfl rfl rfl ?_
  refine s_aloadN (pc' := 2) X0.here hx (hb hby own_d3_1) rfl rfl rfl ?_
  refine s_iconst (pc' := 3) X0.here hx (v := (0 : Int32)) (hb hby own_d3_2) rfl rfl ?_
  refine s_aloadN (pc' := 4) X0.here hx (hb hby own_d3_3) rfl rfl rfl ?_
  refine s_arraylength (pc' := 5) X0 hx hZ e0 V_c (hb hby own_d3_4) rfl ?_
  refine s_aconstNull (pc' := 6) X0.here hx (hb hby own_d3_5) rfl ?_
  refine s_callI (pc' := 9) (W := 0) X0 hx hZ  rfl hown (hw _ (List.mem_of_getElem? (i := 17) rfl)) (hw _ (List.mem_of_getElem? (i := 18) rfl)) (hw _ (List.mem_of_getElem? (i := 13) rfl)) (hw _ (List.mem_of_getElem? (i := 20) rfl)) (by decide) e0 (own_si4_3 l Z a0 hw [] a ca kc cs x0 x1 x2 h0 n0 Z0 O0 S_cs hcs F_v F_c E_a g_a V_c le_x0 le_x1 le_x2) a (by rw [hml]; rfl) [(.ref ca), (.int (0 : Int32)), (.int (3 : Int32)), .null] [] rfl (lenOf own_pd3 rfl) rfl (Nat.le_of_eq rfl) (by decide) (by decide) (by decide) (by decide) rfl (hb hby own_d3_6) fun T1 v1 Lc1 X1 hQ1 => ?_
  obtain ⟨b, kb, rfl, Nq1, Kq1, szb, Ea, Fc, Fv, Vb⟩ := hQ1
  have O2 := O0.keep Kq1 (allS g_a all0)
  have N1 := Fr.app N0 Nq1
  have f3 := E_a.keep Kq1
  have Z4 : n0 ≤ T1.heap.size := Nat.le_trans Z0 Kq1.1
  have K5 : Keep h0 T1.heap [a] := Kr0.trans Kq1 (allS (Or.inl (List.mem_of_getElem? (i := 0) rfl)) all0)
  show Ends p.tables e below (T1.setTop (mkF m 9 #[.val (.ref a), .val (.ref ca)] [])) _
  obtain ⟨fs, hr, hrun, hended, hW, hsame⟩ := X1.leave (v := none) (fun _ => rfl)
  refine ⟨_, _, X1.returnOut hx Bd.returns (hb hby own_d3_9) hr, hrun, hended, _, _, rfl, ?_, ⟨_, rfl⟩, hW, hsame.mono (by decide) (by decide)⟩
  show own_si1_3_Q Z a ca kc cs x0 x1 x2 h0 n0 _ T1.heap _
  exact ⟨b, kb, rfl, N1, K5, szb, Ea, Fc, Fv, Vb⟩
theorem own_d4_8 : decode jdk_42_method_149_code 8 = .ok (.aload_n 0, 1) := by decide +kernel
theorem own_d4_9 : decode jdk_42_method_149_code 9 = .ok (.ldc 7, 2) := by decide +kernel
theorem own_d4_11 : decode jdk_42_method_149_code 11 = .ok (.getfield 9, 3) := by decide +kernel
theorem own_d4_14 : decode jdk_42_method_149_code 14 = .ok (.putfield 9, 3) := by decide +kernel
theorem own_d4_17 : decode jdk_42_method_149_code 17 = .ok (.aload_n 0, 1) := by decide +kernel
theorem own_d4_18 : decode jdk_42_method_149_code 18 = .ok (.ldc 7, 2) := by decide +kernel
theorem own_d4_20 : decode jdk_42_method_149_code 20 = .ok (.getfield 15, 3) := by decide +kernel
theorem own_d4_23 : decode jdk_42_method_149_code 23 = .ok (.putfield 15, 3) := by decide +kernel
theorem own_d4_26 : decode jdk_42_method_149_code 26 = .ok (.return_, 1) := by decide +kernel
theorem own_si4_0_ef (m : MethodId) (a : Addr) (ca : Addr) : entryFrame m #[(.ref a), (.ref ca), (.int (0 : Int32)), (.int (0 : Int32)), .null] 6 = mkF m 0 #[.val (.ref a), .val (.ref ca), .val (.int (0 : Int32)), .val (.int (0 : Int32)), .val .null, .unset] [] := by first | (simp [entryFrame, mkF, argsToLocals, Value.category]; done) | rfl
def own_si4_0_Q (Z : State) (a : Addr) (ca : Addr) (h0 : Heap) (n0 : Nat) (v : Option Value) (h : Heap) (L : List Loc) : Prop := ∃ b kb, v = none ∧ Fr n0 L ∧ Keep h0 h [a] ∧ Exa Z h a "java/lang/String" ∧ Fld Z h a "java/lang/String" "coder" "B" (.int (0 : Int32)) ∧ Fld Z h a "java/lang/String" "value" "[B" (.ref b) ∧ Arv Z h b kb .byte (0 : Int32) [] (.int (0 : Int32))
set_option maxRecDepth 65536 in
set_option maxHeartbeats 40000000 in
theorem own_si4_0 (l : Launch) (Z : State) (a0 : Array Value) (hw : ∀ d ∈ tables_1, d.before a0 Z = true) (ws : List Jvm.Cond) (a : Addr) (ca : Addr) (h0 : Heap) (n0 : Nat) (Z0 : n0 ≤ h0.size) (F_v : Fld Z h0 a "java/lang/String" "value" "[B" .null) (F_c : Fld Z h0 a "java/lang/String" "coder" "B" (.int (0 : Int32))) (E_a : Exa Z h0 a "java/lang/String") (g_a : n0 ≤ a) :
    MetFree l (⟨"java/lang/String", "<init>", "([CIILjava/lang/Void;)V"⟩ : MethodName) (head1 (Jvm.Cond.code (⟨"java/lang/String", "<init>", "([CIILjava/lang/Void;)V"⟩ : MethodName) jdk_42_method_149_code 6 none :: ws) ({ frames := 1, cells := 4, slots := 8, locals := 12 } : Room)) (fun as_ U => as_ = #[(.ref a), (.ref ca), (.int (0 : Int32)), (.int (0 : Int32)), .null] ∧ Z.Warmed39 U.vm ∧ U.heap = h0 ∧ CHv Z consts_1 U.vm h0 ∧ ∀ x_ ∈ ([a] : List Addr), Safe Z consts_1 U.vm h0 x_) (fun _ _ _ _ _ => True) (fun _ U_ o_ V_ => ∃ v_ L_, o_ = .returned v_ ∧ own_si4_0_Q Z a ca h0 n0 v_ V_.heap L_ ∧ CHr Z consts_1 U_.vm U_.heap V_.vm V_.heap ∧ ReturnedEndW U_ o_ V_ L_ ({ frames := 1, cells := 4, slots := 8, locals := 12 } : Room).cells ({ frames := 1, cells := 4, slots := 8, locals := 12 } : Room).slots) := by
  refine MetFree.of_bodySF (plainFor_of_name own_pn1) hisR ?_
  intro p e s m args below meth c s₁ Bd hml0 hP hK
  obtain ⟨rfl, hZ, hh, HC0, hsf0⟩ := hP
  have hx := Bd.exec
  have hby := Bd.bytes
  have hml : c.maxLocals = 6 := hml0
  have hown : s.vm.findClass "java/lang/String" = some m.cls := findClass_of_methodNamed Bd.named
  have hnm := (name_of_methodNamed Bd.named Bd.method).1
  have X0 : Stand p l e ({ frames := 1, cells := 4, slots := 8, locals := 12 } : Room) s m #[(.ref a), (.ref ca), (.int (0 : Int32)), (.int (0 : Int32)), .null] below meth c s₁ [] 0 0 := Stand.of_body Bd
  have e0 : s₁.heap = h0 := by rw [← hh, Bd.state]; rfl
  have N0 := Fr.nil n0
  refine own_begin (own_si4_0_ef m a ca) ?_
  show Ends p.tables e below (s₁.setTop (mkF m 0 #[.val (.ref a), .val (.ref ca), .val (.int (0 : Int32)), .val (.int (0 : Int32)), .val .null, .unset] [])) _
  have Kr0 : Keep h0 h0 [a] := Keep.refl h0 _
  have HR0 : CHr Z consts_1 s.vm h0 s.vm h0 := CHr.refl HC0
  have sf_a := hsf0 a (List.mem_of_getElem? (i := 0) rfl)
  have X0w : Stand p l e ({ frames := 1, cells := 4, slots := 8, locals := 12 } : Room) (s.setVm s.vm) m #[(.ref a), (.ref ca), (.int (0 : Int32)), (.int (0 : Int32)), .null] below meth c s₁ [] 0 0 := X0
  have hS : s.Since s.vm 0 := (State.WarmedH.refl s).since 0
  have hk : 0 ≤ h0.size := Nat.zero_le _
  refine s_aloadN (pc' := 1) X0w.here hx (hb hby own_d4_0) rfl rfl rfl ?_
  refine s_initO (pc' := 4) (W := 0) X0w hx hZ hown (hw _ (List.mem_of_getElem? (i := 21) rfl)) (hw _ (List.mem_of_getElem? (i := 22) rfl)) (hw _ (List.mem_of_getElem? (i := 23) rfl)) e0 (by rw [hml]; rfl) (hb hby own_d4_1) (by decide) (Nat.le_of_eq rfl) (by decide) rfl fun T1 X1 e1 => ?_
  refine s_iloadN (pc' := 5) X1.here hx (hb hby own_d4_4) rfl rfl ?_
  have hk2 : (0 : Int32) = (0 : Int32) := rfl
  refine s_ifNo (pc' := 8) X1.here hx (hb hby own_d4_5) ((if0 _ _).trans (teq hk2).2) rfl ?_
  refine s_aloadN (pc' := 9) X1.here hx (hb hby own_d4_8) rfl rfl rfl ?_
  refine s_ldcCH (pc' := 11) (n := 0) (z := (0 : Int32)) (vs := []) X1 hx hZ hS hk (own_EW hw) HC0 hown (hw _ (List.mem_of_getElem? (i := 24) rfl)) (own_wS hw) e1 (List.mem_of_getElem? (i := 0) rfl) ⟨by decide, by decide⟩ (by decide) rfl (hb hby own_d4_9) (by decide) (by decide) (by decide) (by decide) rfl fun l1 m1 kb3 T3 hp3 kx3 X3 e3 E3 hS hk' hZ hown hr3 Ex3 Fc3 Fv3 Vb3 hne3 => ?_
  have sf4 := CHr.safe hr3 F_v.lt sf_a
  have HR5 := CHr.trans HR0 (hr3)
  have HC6 := hr3.1
  have f7 := F_v.ext E3
  have f8 := F_c.ext E3
  have f9 := E_a.ext E3
  have Z10 : n0 ≤ hp3.size := Nat.le_trans Z0 E3.1
  have K11 : Keep h0 hp3 [a] := Kr0.ext E3
  replace hk := hk'
  have ne12 := hne3 a sf4
  refine s_getF (pc' := 14) X3 hx hZ hown (host := "") (Or.inl (hw _ (List.mem_of_getElem? (i := 30) rfl))) Via.refl e3 Fv3 (hb hby own_d4_11) rfl fun T13 X13 e13 => ?_
  refine s_putF (pc' := 17) (ty := (.array .byte)) X13 hx hZ hown (host := "") (Or.inl (hw _ (List.mem_of_getElem? (i := 30) rfl))) Via.refl e13 f7 f9 (Or.inr ⟨(hw _ (List.mem_of_getElem? (i := 26) rfl)), rfl, hnm⟩) (hw _ (List.mem_of_getElem? (i := 12) rfl)) (by decide) rfl rfl (hb hby own_d4_14) rfl fun T14 hp14 X14 e14 W14 => ?_
  have N14 := Fr.snoc X14 N0 g_a
  have sf15 := Safe.wr W14 sf4 HC6 sf4
  have HR16 := CHr.trans HR5 (CHr.wr W14 sf4 HC6)
  have HC17 := CHv.wr W14 sf4 HC6
  have f18 := f7.same W14
  have f19 := f8.other W14 (Or.inr (slot_ne (Or.inr (hw _ (List.mem_of_getElem? (i := 27) rfl))) (Or.inr (hw _ (List.mem_of_getElem? (i := 26) rfl))) (by decide) (t := .byte) (t' := (.array .byte)) (by decide) (by decide)))
  have f20 := f9.wr W14
  have f21 := Ex3.wr W14
  have f22 := Fc3.other W14 (Or.inl (Ne.symm ne12.1))
  have f23 := Fv3.other W14 (Or.inl (Ne.symm ne12.1))
  have f24 := Vb3.other W14 (Ne.symm ne12.2)
  replace hk := Nat.le_trans hk (Keep.of_wr W14).1
  have Z25 : n0 ≤ hp14.size := Nat.le_trans Z10 (Keep.of_wr W14).1
  have K26 : Keep h0 hp14 [a] := K11.wr W14 (Or.inl (List.mem_of_getElem? (i := 0) rfl))
  refine s_aloadN (pc' := 18) X14.here hx (hb hby own_d4_17) rfl rfl rfl ?_
  refine s_ldcCH (pc' := 20) (n := 0) (z := (0 : Int32)) (vs := []) X14 hx hZ hS hk (own_EW hw) HC17 hown (hw _ (List.mem_of_getElem? (i := 24) rfl)) (own_wS hw) e14 (List.mem_of_getElem? (i := 0) rfl) ⟨by decide, by decide⟩ (by decide) rfl (hb hby own_d4_18) (by decide) (by decide) (by decide) (by decide) rfl fun l2 m2 kb27 T27 hp27 kx27 X27 e27 E27 hS hk' hZ hown hr27 Ex27 Fc27 Fv27 Vb27 hne27 => ?_
  have sf28 := CHr.safe hr27 f18.lt sf15
  have HR29 := CHr.trans HR16 (hr27)
  have HC30 := hr27.1
  have f31 := f18.ext E27
  have f32 := f19.ext E27
  have f33 := f20.ext E27
  have f34 := f21.ext E27
  have f35 := f22.ext E27
  have f36 := f23.ext E27
  have f37 := f24.ext E27
  have Z38 : n0 ≤ hp27.size := Nat.le_trans Z25 E27.1
  have K39 : Keep h0 hp27 [a] := K26.ext E27
  replace hk := hk'
  have ne40 := hne27 a sf28
  refine s_getF (pc' := 23) X27 hx hZ hown (host := "") (Or.inl (hw _ (List.mem_of_getElem? (i := 31) rfl))) Via.refl e27 Fc27 (hb hby own_d4_20) rfl fun T41 X41 e41 => ?_
  refine s_putFN (pc' := 26) (v' := (.int (0 : Int32))) (ty := .byte) X41 hx hZ hown (hw _ (List.mem_of_getElem? (i := 31) rfl)) Via.refl e41 f32 f33 (Or.inr ⟨(hw _ (List.mem_of_getElem? (i := 27) rfl)), rfl, hnm⟩) (hw _ (List.mem_of_getElem? (i := 12) rfl)) (by decide) rfl rfl (hb hby own_d4_23) rfl fun T42 hp42 X42 e42 W42 => ?_
  have N42 := Fr.snoc X42 N14 g_a
  have sf43 := Safe.wr W42 sf28 HC30 sf28
  have HR44 := CHr.trans HR29 (CHr.wr W42 sf28 HC30)
  have HC45 := CHv.wr W42 sf28 HC30
  have f46 := f31.other W42 (Or.inr (slot_ne (Or.inr (hw _ (List.mem_of_getElem? (i := 26) rfl))) (Or.inr (hw _ (List.mem_of_getElem? (i := 27) rfl))) (by decide) (t := (.array .byte)) (t' := .byte) (by decide) (by decide)))
  have f47 := f32.same W42
  have f48 := f33.wr W42
  have f49 := f34.wr W42
  have f50 := f35.other W42 (Or.inl (Ne.symm ne12.1))
  have f51 := f36.other W42 (Or.inl (Ne.symm ne12.1))
  have f52 := f37.other W42 (Ne.symm ne12.2)
  have f53 := Ex27.wr W42
  have f54 := Fc27.other W42 (Or.inl (Ne.symm ne40.1))
  have f55 := Fv27.other W42 (Or.inl (Ne.symm ne40.1))
  have f56 := Vb27.other W42 (Ne.symm ne40.2)
  replace hk := Nat.le_trans hk (Keep.of_wr W42).1
  have Z57 : n0 ≤ hp42.size := Nat.le_trans Z38 (Keep.of_wr W42).1
  have K58 : Keep h0 hp42 [a] := K39.wr W42 (Or.inl (List.mem_of_getElem? (i := 0) rfl))
  obtain ⟨fs, hr, hrun, hended, hRW⟩ := X42.leaveW hS (show _ ≤ T42.heap.size from by rw [e42]; exact hk) (v := none) (fun _ => rfl)
  have hfin : CHr Z consts_1 s.vm s.heap T42.vm T42.heap := by rw [hh, e42]; exact CHr.trans HR44 (CHv.at X42 hZ (own_EW hw) HC45)
  refine ⟨_, _, X42.returnOut hx Bd.returns (hb hby own_d4_26) hr, hrun, hended, _, _, rfl, ?_, hfin, own_rwm hRW (by decide) (by decide)⟩
  show own_si4_0_Q Z a ca h0 n0 _ T42.heap _
  rw [e42]
  exact ⟨m1, kb3, rfl, N42, K58, f48, f47, f46, f52⟩
theorem own_si1_0_ef (m : MethodId) (a : Addr) (ca : Addr) (kc : ClassId) : entryFrame m #[(.ref a), (.ref ca)] 2 = mkF m 0 #[.val (.ref a), .val (.ref ca)] [] := by first | (simp [entryFrame, mkF, argsToLocals, Value.category]; done) | rfl
def own_si1_0_Q (Z : State) (a : Addr) (ca : Addr) (kc : ClassId) (h0 : Heap) (n0 : Nat) (v : Option Value) (h : Heap) (L : List Loc) : Prop := ∃ b kb, v = none ∧ Fr n0 L ∧ Keep h0 h [a] ∧ Exa Z h a "java/lang/String" ∧ Fld Z h a "java/lang/String" "coder" "B" (.int (0 : Int32)) ∧ Fld Z h a "java/lang/String" "value" "[B" (.ref b) ∧ Arv Z h b kb .byte (0 : Int32) [] (.int (0 : Int32))
set_option maxRecDepth 65536 in
set_option maxHeartbeats 40000000 in
theorem own_si1_0 (l : Launch) (Z : State) (a0 : Array Value) (hw : ∀ d ∈ tables_1, d.before a0 Z = true) (ws : List Jvm.Cond) (a : Addr) (ca : Addr) (kc : ClassId) (h0 : Heap) (n0 : Nat) (Z0 : n0 ≤ h0.size) (F_v : Fld Z h0 a "java/lang/String" "value" "[B" .null) (F_c : Fld Z h0 a "java/lang/String" "coder" "B" (.int (0 : Int32))) (E_a : Exa Z h0 a "java/lang/String") (g_a : n0 ≤ a) (V_c : Arv Z h0 ca kc .char (0 : Int32) [] (.int (0 : Int32))) :
    MetFree l (⟨"java/lang/String", "<init>", "([C)V"⟩ : MethodName) (head1 (Jvm.Cond.code (⟨"java/lang/String", "<init>", "([C)V"⟩ : MethodName) jdk_42_method_3_code 2 none :: ws) ({ frames := 2, cells := 4, slots := 8, locals := 29 } : Room)) (fun as_ U => as_ = #[(.ref a), (.ref ca)] ∧ Z.Warmed39 U.vm ∧ U.heap = h0 ∧ CHv Z consts_1 U.vm h0 ∧ ∀ x_ ∈ ([a] : List Addr), Safe Z consts_1 U.vm h0 x_) (fun _ _ _ _ _ => True) (fun _ U_ o_ V_ => ∃ v_ L_, o_ = .returned v_ ∧ own_si1_0_Q Z a ca kc h0 n0 v_ V_.heap L_ ∧ CHr Z consts_1 U_.vm U_.heap V_.vm V_.heap ∧ ReturnedEndW U_ o_ V_ L_ ({ frames := 2, cells := 4, slots := 8, locals := 29 } : Room).cells ({ frames := 2, cells := 4, slots := 8, locals := 29 } : Room).slots) := by
  refine MetFree.of_bodySF (plainFor_of_name own_pn1) hisR ?_
  intro p e s m args below meth c s₁ Bd hml0 hP hK
  obtain ⟨rfl, hZ, hh, HC0, hsf0⟩ := hP
  have hx := Bd.exec
  have hby := Bd.bytes
  have hml : c.maxLocals = 2 := hml0
  have hown : s.vm.findClass "java/lang/String" = some m.cls := findClass_of_methodNamed Bd.named
  have hnm := (name_of_methodNamed Bd.named Bd.method).1
  have X0 : Stand p l e ({ frames := 2, cells := 4, slots := 8, locals := 29 } : Room) s m #[(.ref a), (.ref ca)] below meth c s₁ [] 0 0 := Stand.of_body Bd
  have e0 : s₁.heap = h0 := by rw [← hh, Bd.state]; rfl
  have N0 := Fr.nil n0
  refine own_begin (own_si1_0_ef m a ca kc) ?_
  show Ends p.tables e below (s₁.setTop (mkF m 0 #[.val (.ref a), .val (.ref ca)] [])) _
  have Kr0 : Keep h0 h0 [a] := Keep.refl h0 _
  have HR0 : CHr Z consts_1 s.vm h0 s.vm h0 := CHr.refl HC0
  have sf_a := hsf0 a (List.mem_of_getElem? (i := 0) rfl)
  have X0w : Stand p l e ({ frames := 2, cells := 4, slots := 8, locals := 29 } : Room) (s.setVm s.vm) m #[(.ref a), (.ref ca)] below meth c s₁ [] 0 0 := X0
  have hS : s.Since s.vm 0 := (State.WarmedH.refl s).since 0
  have hk : 0 ≤ h0.size := Nat.zero_le _
  refine s_aloadN (pc' := 1) X0w.here hx (hb hby own_d3_0) rfl rfl rfl ?_
  refine s_aloadN (pc' := 2) X0w.here hx (hb hby own_d3_1) rfl rfl rfl ?_
  refine s_iconst (pc' := 3) X0w.here hx (v := (0 : Int32)) (hb hby own_d3_2) rfl rfl ?_
  refine s_aloadN (pc' := 4) X0w.here hx (hb hby own_d3_3) rfl rfl rfl ?_
  refine s_arraylength (pc' := 5) X0w hx hZ e0 V_c (hb hby own_d3_4) rfl ?_
  refine s_aconstNull (pc' := 6) X0w.here hx (hb hby own_d3_5) rfl ?_
  refine s_callIH (pc' := 9) (W := 0) X0w hx hZ hS hk (own_EW hw) HC0  hown rfl (hw _ (List.mem_of_getElem? (i := 17) rfl)) (hw _ (List.mem_of_getElem? (i := 18) rfl)) (hw _ (List.mem_of_getElem? (i := 13) rfl)) (hw _ (List.mem_of_getElem? (i := 20) rfl)) (by decide) e0 (own_si4_0 l Z a0 hw [] a ca h0 n0 Z0 F_v F_c E_a g_a) (own_safeS F_v.lt sf_a own_safe0) a (by rw [hml]; rfl) [(.ref ca), (.int (0 : Int32)), (.int (0 : Int32)), .null] [] rfl (lenOf own_pd3 rfl) rfl (Nat.le_of_eq rfl) (by decide) (by decide) (by decide) (by decide) rfl (hb hby own_d3_6) fun T1 v1 Lc1 X1 hS hZ hown hr1 hQ1 => ?_
  obtain ⟨b, kb, rfl, Nq1, Kq1, Ea, Fc, Fv, Vb⟩ := hQ1
  have sf2 := CHr.safe hr1 F_v.lt sf_a
  have HR3 := CHr.trans HR0 (hr1)
  have HC4 := hr1.1
  have N1 := Fr.app N0 Nq1
  have hk : T1.heap.size ≤ T1.heap.size := Nat.le_refl _
  have f5 := E_a.keep Kq1
  have Z6 : n0 ≤ T1.heap.size := Nat.le_trans Z0 Kq1.1
  have K7 : Keep h0 T1.heap [a] := Kr0.trans Kq1 (allS (Or.inl (List.mem_of_getElem? (i := 0) rfl)) all0)
  show Ends p.tables e below (T1.setTop (mkF m 9 #[.val (.ref a), .val (.ref ca)] [])) _
  obtain ⟨fs, hr, hrun, hended, hRW⟩ := X1.leaveW hS (show _ ≤ T1.heap.size from hk) (v := none) (fun _ => rfl)
  have hfin : CHr Z consts_1 s.vm s.heap T1.vm T1.heap := by rw [hh]; exact CHr.trans HR3 (CHv.at X1 hZ (own_EW hw) HC4)
  refine ⟨_, _, X1.returnOut hx Bd.returns (hb hby own_d3_9) hr, hrun, hended, _, _, rfl, ?_, hfin, own_rwm hRW (by decide) (by decide)⟩
  show own_si1_0_Q Z a ca kc h0 n0 _ T1.heap _
  exact ⟨b, kb, rfl, N1, K7, Ea, Fc, Fv, Vb⟩
/-- two contents are alike -/
def own_same_ (z : Int32) (vs : List Value) (z' : Int32) (us : List Value) : Prop := z = z' ∧ ∀ i, i < z.toNatClampNeg → vs.getD i (.int (0 : Int32)) = us.getD i (.int (0 : Int32))
theorem own_r0 {r : Int32} {P : Prop} (h : r = 0 ∨ r = 1) (q : r = 1 ↔ P) (n : ¬ P) : r = 0 := h.resolve_right fun z => n (q.mp z)
theorem own_byteAt {Z : State} {h : Heap} {a : Addr} {k : ClassId} {z : Int32} {vs : List Value} {d : Value} (F : Arv Z h a k .byte z vs d) {j : Int32} (h0 : ¬ j < 0) (h1 : j < z) : ∃ x : Int32, vs.getD j.toNatClampNeg d = .int x := by
  obtain ⟨c, A, q, S, M, H, G⟩ := F
  have hin := inb_of S ⟨h0, h1⟩
  have g := G j.toNatClampNeg (Nat.lt_of_not_le fun y => hin (Or.inr y))
  cases hv : vs.getD j.toNatClampNeg d with
  | int x => exact ⟨x, rfl⟩
  | _ => rw [hv] at g; simp [fits] at g
theorem own_arvNN {Z : State} {h : Heap} {a : Addr} {k : ClassId} {ty : FieldType} {z : Int32} {vs : List Value} {d : Value} (F : Arv Z h a k ty z vs d) : ¬ z < 0 := by
  obtain ⟨c, A, q, S, M, H, G⟩ := F
  exact M
theorem own_arvSame {Z : State} {h : Heap} {a : Addr} {k k' : ClassId} {z z' : Int32} {vs us : List Value} (F : Arv Z h a k .byte z vs (.int (0 : Int32))) (G : Arv Z h a k' .byte z' us (.int (0 : Int32))) : own_same_ z vs z' us := by
  obtain ⟨c, A, q, S, M, H, -⟩ := F
  obtain ⟨c', A', q', S', M', H', -⟩ := G
  cases A.1.symm.trans A'.1
  have e : z = z' := by rw [← (back32 M).1, ← (back32 M').1, ← S, ← S']
  refine ⟨e, fun i hi => ?_⟩
  rw [← S] at hi
  exact Option.some.inj ((H i hi).symm.trans (H' i hi))
theorem own_fldSame {Z : State} {h : Heap} {a : Addr} {C n d : String} {v w : Value} (F : Fld Z h a C n d v) (G : Fld Z h a C n d w) : v = w := Classical.byContradiction fun q => Fld.ne F G q rfl
theorem own_nlt_ {x y : Int32} (h : y.toInt ≤ x.toInt) : ¬ x < y := by
  rw [Int32.lt_iff_toInt_lt]
  omega
theorem own_lt_ {x y : Int32} (h : x.toInt < y.toInt) : x < y := Int32.lt_iff_toInt_lt.mpr h
theorem own_d15_0 : decode jdk_43_method_13_code 0 = .ok (.aload_n 0, 1) := by decide +kernel
theorem own_d15_1 : decode jdk_43_method_13_code 1 = .ok (.arraylength, 1) := by decide +kernel
theorem own_d15_2 : decode jdk_43_method_13_code 2 = .ok (.aload_n 1, 1) := by decide +kernel
theorem own_d15_3 : decode jdk_43_method_13_code 3 = .ok (.arraylength, 1) := by decide +kernel
theorem own_d15_4 : decode jdk_43_method_13_code 4 = .ok (.if_icmp .ne 30, 3) := by decide +kernel
theorem own_d15_34 : decode jdk_43_method_13_code 34 = .ok (.iconst 0, 1) := by decide +kernel
theorem own_d15_35 : decode jdk_43_method_13_code 35 = .ok (.ireturn, 1) := by decide +kernel
theorem own_d15_7 : decode jdk_43_method_13_code 7 = .ok (.iconst 0, 1) := by decide +kernel
theorem own_d15_8 : decode jdk_43_method_13_code 8 = .ok (.istore_n 2, 1) := by decide +kernel
theorem own_d15_9 : decode jdk_43_method_13_code 9 = .ok (.iload_n 2, 1) := by decide +kernel
theorem own_d15_10 : decode jdk_43_method_13_code 10 = .ok (.aload_n 0, 1) := by decide +kernel
theorem own_d15_11 : decode jdk_43_method_13_code 11 = .ok (.arraylength, 1) := by decide +kernel
theorem own_d15_12 : decode jdk_43_method_13_code 12 = .ok (.if_icmp .ge 20, 3) := by decide +kernel
theorem own_d15_32 : decode jdk_43_method_13_code 32 = .ok (.iconst 1, 1) := by decide +kernel
theorem own_d15_33 : decode jdk_43_method_13_code 33 = .ok (.ireturn, 1) := by decide +kernel
theorem own_d15_15 : decode jdk_43_method_13_code 15 = .ok (.aload_n 0, 1) := by decide +kernel
theorem own_d15_16 : decode jdk_43_method_13_code 16 = .ok (.iload_n 2, 1) := by decide +kernel
theorem own_d15_17 : decode jdk_43_method_13_code 17 = .ok (.baload, 1) := by decide +kernel
theorem own_d15_18 : decode jdk_43_method_13_code 18 = .ok (.aload_n 1, 1) := by decide +kernel
theorem own_d15_19 : decode jdk_43_method_13_code 19 = .ok (.iload_n 2, 1) := by decide +kernel
theorem own_d15_20 : decode jdk_43_method_13_code 20 = .ok (.baload, 1) := by decide +kernel
theorem own_d15_21 : decode jdk_43_method_13_code 21 = .ok (.if_icmp .eq 5, 3) := by decide +kernel
theorem own_d15_24 : decode jdk_43_method_13_code 24 = .ok (.iconst 0, 1) := by decide +kernel
theorem own_d15_25 : decode jdk_43_method_13_code 25 = .ok (.ireturn, 1) := by decide +kernel
theorem own_d15_26 : decode jdk_43_method_13_code 26 = .ok (.iinc 2 1, 3) := by decide +kernel
theorem own_d15_29 : decode jdk_43_method_13_code 29 = .ok (.goto (-20), 3) := by decide +kernel
theorem own_pn2 : plainName "java/lang/StringLatin1" = true := by first | (simp [plainName, overriddenIn]; done) | decide +kernel
theorem own_leq_ef (m : MethodId) (b : Addr) (b' : Addr) (k : ClassId) (z : Int32) (vs : List Value) (k' : ClassId) (z' : Int32) (us : List Value) (r : Int32) : entryFrame m #[(.ref b), (.ref b')] 3 = mkF m 0 #[.val (.ref b), .val (.ref b'), .unset] [] := by first | (simp [entryFrame, mkF, argsToLocals, Value.category]; done) | rfl
def own_leq_Q (Z : State) (b : Addr) (b' : Addr) (k : ClassId) (z : Int32) (vs : List Value) (k' : ClassId) (z' : Int32) (us : List Value) (r : Int32) (h0 : Heap) (n0 : Nat) (v : Option Value) (h : Heap) (L : List Loc) : Prop := v = some (.int r) ∧ Fr n0 L ∧ h = h0
set_option maxRecDepth 65536 in
set_option maxHeartbeats 40000000 in
theorem own_leq (l : Launch) (Z : State) (a0 : Array Value) (hw : ∀ d ∈ tables_1, d.before a0 Z = true) (ws : List Jvm.Cond) (b : Addr) (b' : Addr) (k : ClassId) (z : Int32) (vs : List Value) (k' : ClassId) (z' : Int32) (us : List Value) (r : Int32) (h0 : Heap) (n0 : Nat) (Z0 : n0 ≤ h0.size) (V_b : Arv Z h0 b k .byte z vs (.int (0 : Int32))) (V_b' : Arv Z h0 b' k' .byte z' us (.int (0 : Int32))) (r01 : r = 0 ∨ r = 1) (hrr : r = 1 ↔ own_same_ z vs z' us) :
    MetFree l (⟨"java/lang/StringLatin1", "equals", "([B[B)Z"⟩ : MethodName) (head1 (Jvm.Cond.code (⟨"java/lang/StringLatin1", "equals", "([B[B)Z"⟩ : MethodName) jdk_43_method_13_code 3 (some .boolean) :: ws) ({ frames := 0, cells := 0, slots := 0, locals := 0 } : Room)) (fun as_ U => as_ = #[(.ref b), (.ref b')] ∧ Z.Warmed39 U.vm ∧ U.heap = h0) (fun _ _ _ _ _ => True) (fun _ U_ o_ V_ => ∃ v_ L_, o_ = .returned v_ ∧ own_leq_Q Z b b' k z vs k' z' us r h0 n0 v_ V_.heap L_ ∧ FrameEnd U_ o_ V_ L_ ({ frames := 0, cells := 0, slots := 0, locals := 0 } : Room).cells ({ frames := 0, cells := 0, slots := 0, locals := 0 } : Room).slots) := by
  refine MetFree.of_bodySF (plainFor_of_name own_pn2) hisR ?_
  intro p e s m args below meth c s₁ Bd hml0 hP hK
  obtain ⟨rfl, hZ, hh⟩ := hP
  have hx := Bd.exec
  have hby := Bd.bytes
  have hml : c.maxLocals = 3 := hml0
  have hown : s.vm.findClass "java/lang/StringLatin1" = some m.cls := findClass_of_methodNamed Bd.named
  have hnm := (name_of_methodNamed Bd.named Bd.method).1
  have X0 : Stand p l e ({ frames := 0, cells := 0, slots := 0, locals := 0 } : Room) s m #[(.ref b), (.ref b')] below meth c s₁ [] 0 0 := Stand.of_body Bd
  have e0 : s₁.heap = h0 := by rw [← hh, Bd.state]; rfl
  have N0 := Fr.nil n0
  refine own_begin (own_leq_ef m b b' k z vs k' z' us r) ?_
  show Ends p.tables e below (s₁.setTop (mkF m 0 #[.val (.ref b), .val (.ref b'), .unset] [])) _
  have one : (1 : Int32).toInt = 1 := by decide
  have zero : (0 : Int32).toInt = 0 := by decide
  have nz := own_arvNN V_b
  have nzi := nat_of nz
  refine s_aloadN (pc' := 1) X0.here hx (hb hby own_d15_0) rfl rfl rfl ?_
  refine s_arraylength (pc' := 2) X0 hx hZ e0 V_b (hb hby own_d15_1) rfl ?_
  refine s_aloadN (pc' := 3) X0.here hx (hb hby own_d15_2) rfl rfl rfl ?_
  refine s_arraylength (pc' := 4) X0 hx hZ e0 V_b' (hb hby own_d15_3) rfl ?_
  by_cases hzz : z = z'
  · refine s_icmpNo (pc' := 7) X0.here hx (hb hby own_d15_4) (teq hzz).2 rfl ?_
    refine s_iconst (pc' := 8) X0.here hx (v := (0 : Int32)) (hb hby own_d15_7) rfl rfl ?_
    refine s_istoreN (pc' := 9) X0.here hx (l' := #[.val (.ref b), .val (.ref b'), .val (.int (0 : Int32))]) (hb hby own_d15_8) rfl rfl ?_
    obtain ⟨LL1, XLL1, NLL1⟩ : ∃ LL, Stand p l e ({ frames := 0, cells := 0, slots := 0, locals := 0 } : Room) s m #[(.ref b), (.ref b')] below meth c s₁ LL 0 0 ∧ Fr n0 LL := ⟨_, X0, N0⟩
    refine own_join (α := Nat × State × Int32) (fun ⟨kk, TT, i⟩ => TT.setTop (mkF m 9 #[.val (.ref b), .val (.ref b'), .val (.int i)] [])) (fun ⟨kk, TT, i⟩ => Stand p l e ({ frames := 0, cells := 0, slots := 0, locals := 0 } : Room) s m #[(.ref b), (.ref b')] below meth c TT LL1 0 0 ∧ TT.heap = h0 ∧ (0 ≤ i.toInt ∧ i.toInt + kk = z.toInt ∧ ∀ j, j < i.toNatClampNeg → vs.getD j (.int (0 : Int32)) = us.getD j (.int (0 : Int32)))) (fun key => key (z.toInt.toNat, s₁, (0 : Int32)) ⟨XLL1, e0, ⟨by omega, by omega, fun j hj => absurd hj (Nat.not_lt_zero j)⟩⟩) ?_
    rintro ⟨kk, TT, i⟩ ⟨XX, eX, hI⟩
    dsimp only at XX eX hI ⊢
    induction kk generalizing TT i with
    | zero =>
      show Ends p.tables e below (TT.setTop (mkF m 9 #[.val (.ref b), .val (.ref b'), .val (.int i)] [])) _
      obtain ⟨i_0, i_1, i_2⟩ := hI
      refine s_iloadN (pc' := 10) XX.here hx (hb hby own_d15_9) rfl rfl ?_
      refine s_aloadN (pc' := 11) XX.here hx (hb hby own_d15_10) rfl rfl rfl ?_
      refine s_arraylength (pc' := 12) XX hx hZ eX V_b (hb hby own_d15_11) rfl ?_
      have hk2 : ¬ (i < z) := own_nlt_ (by omega)
      refine s_icmpYes (pc' := 32) XX.here hx (hb hby own_d15_12) (flt hk2).2.1 (by decide) (by decide) ?_
      refine s_iconst (pc' := 33) XX.here hx (v := (1 : Int32)) (hb hby own_d15_32) rfl rfl ?_
      have iz : i.toNatClampNeg = z.toNatClampNeg := by
        have q1 := nat_of (show ¬ i < 0 from own_nlt_ (by omega))
        omega
      have r1 : r = 1 := hrr.mpr ⟨hzz, fun j hj => i_2 j (by rw [iz]; exact hj)⟩
      obtain ⟨fs, hr, hrun, hended, hW, hsame⟩ := XX.leave (v := some (.int (1 : Int32))) (fun h => by rw [Bd.returns] at h; cases h)
      refine ⟨_, _, retN XX hx (t := .boolean) Bd.returns (by simp) (hb hby own_d15_33) hr, hrun, hended, _, _, rfl, ?_, ⟨_, rfl⟩, hW, hsame.mono (by decide) (by decide)⟩
      show own_leq_Q Z b b' k z vs k' z' us r h0 n0 _ TT.heap _
      rw [eX]
      exact ⟨by rw [r1] <;> rfl, NLL1, rfl⟩
    | succ kk ih =>
      show Ends p.tables e below (TT.setTop (mkF m 9 #[.val (.ref b), .val (.ref b'), .val (.int i)] [])) _
      obtain ⟨i_0, i_1, i_2⟩ := hI
      refine s_iloadN (pc' := 10) XX.here hx (hb hby own_d15_9) rfl rfl ?_
      refine s_aloadN (pc' := 11) XX.here hx (hb hby own_d15_10) rfl rfl rfl ?_
      refine s_arraylength (pc' := 12) XX hx hZ eX V_b (hb hby own_d15_11) rfl ?_
      have hk3 : i < z := own_lt_ (by omega)
      refine s_icmpNo (pc' := 15) XX.here hx (hb hby own_d15_12) (tlt hk3).2.1 rfl ?_
      refine s_aloadN (pc' := 16) XX.here hx (hb hby own_d15_15) rfl rfl rfl ?_
      refine s_iloadN (pc' := 17) XX.here hx (hb hby own_d15_16) rfl rfl ?_
      have i0 : ¬ i < 0 := own_nlt_ (by omega)
      have i1 : i < z := own_lt_ (by omega)
      have i1' : i < z' := hzz ▸ i1
      obtain ⟨x, hx0⟩ := own_byteAt V_b i0 i1
      obtain ⟨y, hy0⟩ := own_byteAt V_b' i0 i1'
      have in_ := nat_of i0
      refine s_baload (pc' := 18) (v := (.int x)) XX hx hZ eX V_b ⟨i0, i1⟩ hx0 (hb hby own_d15_17) rfl ?_
      refine s_aloadN (pc' := 19) XX.here hx (hb hby own_d15_18) rfl rfl rfl ?_
      refine s_iloadN (pc' := 20) XX.here hx (hb hby own_d15_19) rfl rfl ?_
      refine s_baload (pc' := 21) (v := (.int y)) XX hx hZ eX V_b' ⟨i0, i1'⟩ hy0 (hb hby own_d15_20) rfl ?_
      by_cases hxy : x = y
      · refine s_icmpYes (pc' := 26) XX.here hx (hb hby own_d15_21) (teq hxy).1 (by decide) (by decide) ?_
        refine s_iinc (pc' := 29) XX.here hx (v := (1 : Int32)) (l' := #[.val (.ref b), .val (.ref b'), .val (.int (i + (1 : Int32)))]) (hb hby own_d15_26) rfl rfl rfl rfl ?_
        refine s_goto (pc' := 9) XX.here hx (hb hby own_d15_29) (by decide) (by decide) ?_
        have q3 : (i + (1 : Int32)).toInt = i.toInt + (1 : Int32).toInt := by
          have q4 := c_iadd i (1 : Int32)
          have q5 := rng32 (i + (1 : Int32))
          have q6 := rng32 z
          omega
        have q7 := nat_of (show ¬ (i + (1 : Int32)) < 0 from own_nlt_ (by omega))
        exact ih TT (i + (1 : Int32)) XX eX (⟨by omega, by omega, fun j hj => by
            by_cases e : j = i.toNatClampNeg
            · rw [e, hx0, hy0, hxy]
            · exact i_2 j (by omega)⟩)
      · refine s_icmpNo (pc' := 24) XX.here hx (hb hby own_d15_21) (feq hxy).1 rfl ?_
        refine s_iconst (pc' := 25) XX.here hx (v := (0 : Int32)) (hb hby own_d15_24) rfl rfl ?_
        obtain ⟨fs, hr, hrun, hended, hW, hsame⟩ := XX.leave (v := some (.int (0 : Int32))) (fun h => by rw [Bd.returns] at h; cases h)
        refine ⟨_, _, retN XX hx (t := .boolean) Bd.returns (by simp) (hb hby own_d15_25) hr, hrun, hended, _, _, rfl, ?_, ⟨_, rfl⟩, hW, hsame.mono (by decide) (by decide)⟩
        show own_leq_Q Z b b' k z vs k' z' us r h0 n0 _ TT.heap _
        rw [eX]
        exact ⟨by rw [own_r0 r01 hrr (fun q => hxy (Value.int.inj ((hx0.symm.trans (q.2 _ (by omega))).trans hy0)))] <;> rfl, NLL1, rfl⟩
  · refine s_icmpYes (pc' := 34) X0.here hx (hb hby own_d15_4) (feq hzz).2 (by decide) (by decide) ?_
    refine s_iconst (pc' := 35) X0.here hx (v := (0 : Int32)) (hb hby own_d15_34) rfl rfl ?_
    obtain ⟨fs, hr, hrun, hended, hW, hsame⟩ := X0.leave (v := some (.int (0 : Int32))) (fun h => by rw [Bd.returns] at h; cases h)
    refine ⟨_, _, retN X0 hx (t := .boolean) Bd.returns (by simp) (hb hby own_d15_35) hr, hrun, hended, _, _, rfl, ?_, ⟨_, rfl⟩, hW, hsame.mono (by decide) (by decide)⟩
    show own_leq_Q Z b b' k z vs k' z' us r h0 n0 _ s₁.heap _
    rw [e0]
    exact ⟨by rw [own_r0 r01 hrr (fun q => hzz q.1)] <;> rfl, N0, rfl⟩
theorem own_d14_0 : decode jdk_42_method_66_code 0 = .ok (.aload_n 0, 1) := by decide +kernel
theorem own_d14_1 : decode jdk_42_method_66_code 1 = .ok (.aload_n 1, 1) := by decide +kernel
theorem own_d14_2 : decode jdk_42_method_66_code 2 = .ok (.if_acmp .ne 5, 3) := by decide +kernel
theorem own_d14_5 : decode jdk_42_method_66_code 5 = .ok (.iconst 1, 1) := by decide +kernel
theorem own_d14_6 : decode jdk_42_method_66_code 6 = .ok (.ireturn, 1) := by decide +kernel
theorem own_d14_7 : decode jdk_42_method_66_code 7 = .ok (.aload_n 1, 1) := by decide +kernel
theorem own_d14_8 : decode jdk_42_method_66_code 8 = .ok (.instanceof 10, 3) := by decide +kernel
theorem own_d14_11 : decode jdk_42_method_66_code 11 = .ok (.ifCond .eq 43, 3) := by decide +kernel
theorem own_d14_14 : decode jdk_42_method_66_code 14 = .ok (.aload_n 1, 1) := by decide +kernel
theorem own_d14_15 : decode jdk_42_method_66_code 15 = .ok (.checkcast 10, 3) := by decide +kernel
theorem own_d14_18 : decode jdk_42_method_66_code 18 = .ok (.astore_n 2, 1) := by decide +kernel
theorem own_d14_19 : decode jdk_42_method_66_code 19 = .ok (.getstatic 38, 3) := by decide +kernel
theorem own_d14_22 : decode jdk_42_method_66_code 22 = .ok (.ifCond .eq 14, 3) := by decide +kernel
theorem own_d14_25 : decode jdk_42_method_66_code 25 = .ok (.aload_n 0, 1) := by decide +kernel
theorem own_d14_26 : decode jdk_42_method_66_code 26 = .ok (.getfield 15, 3) := by decide +kernel
theorem own_d14_29 : decode jdk_42_method_66_code 29 = .ok (.aload_n 2, 1) := by decide +kernel
theorem own_d14_30 : decode jdk_42_method_66_code 30 = .ok (.getfield 15, 3) := by decide +kernel
theorem own_d14_33 : decode jdk_42_method_66_code 33 = .ok (.if_icmp .ne 21, 3) := by decide +kernel
theorem own_d14_36 : decode jdk_42_method_66_code 36 = .ok (.aload_n 0, 1) := by decide +kernel
theorem own_d14_37 : decode jdk_42_method_66_code 37 = .ok (.getfield 9, 3) := by decide +kernel
theorem own_d14_40 : decode jdk_42_method_66_code 40 = .ok (.aload_n 2, 1) := by decide +kernel
theorem own_d14_41 : decode jdk_42_method_66_code 41 = .ok (.getfield 9, 3) := by decide +kernel
theorem own_d14_44 : decode jdk_42_method_66_code 44 = .ok (.invokestatic 541, 3) := by decide +kernel
theorem own_pd4 : parseMethodDescriptor "([B[B)Z" = some ⟨[(.array .byte), (.array .byte)], some .boolean⟩ := by decide +kernel
theorem own_d14_47 : decode jdk_42_method_66_code 47 = .ok (.ifCond .eq 7, 3) := by decide +kernel
theorem own_d14_54 : decode jdk_42_method_66_code 54 = .ok (.iconst 0, 1) := by decide +kernel
theorem own_d14_55 : decode jdk_42_method_66_code 55 = .ok (.ireturn, 1) := by decide +kernel
theorem own_d14_50 : decode jdk_42_method_66_code 50 = .ok (.iconst 1, 1) := by decide +kernel
theorem own_d14_51 : decode jdk_42_method_66_code 51 = .ok (.goto 4, 3) := by decide +kernel
theorem own_seq_ef (m : MethodId) (a : Addr) (a' : Addr) (cs : Int32) (b : Addr) (b' : Addr) (k : ClassId) (z : Int32) (vs : List Value) (k' : ClassId) (z' : Int32) (us : List Value) (r : Int32) : entryFrame m #[(.ref a), (.ref a')] 3 = mkF m 0 #[.val (.ref a), .val (.ref a'), .unset] [] := by first | (simp [entryFrame, mkF, argsToLocals, Value.category]; done) | rfl
def own_seq_Q (Z : State) (a : Addr) (a' : Addr) (cs : Int32) (b : Addr) (b' : Addr) (k : ClassId) (z : Int32) (vs : List Value) (k' : ClassId) (z' : Int32) (us : List Value) (r : Int32) (h0 : Heap) (n0 : Nat) (v : Option Value) (h : Heap) (L : List Loc) : Prop := v = some (.int r) ∧ Fr n0 L ∧ h = h0
set_option maxRecDepth 65536 in
set_option maxHeartbeats 40000000 in
theorem own_seq (l : Launch) (Z : State) (a0 : Array Value) (hw : ∀ d ∈ tables_1, d.before a0 Z = true) (ws : List Jvm.Cond) (a : Addr) (a' : Addr) (cs : Int32) (b : Addr) (b' : Addr) (k : ClassId) (z : Int32) (vs : List Value) (k' : ClassId) (z' : Int32) (us : List Value) (r : Int32) (h0 : Heap) (n0 : Nat) (Z0 : n0 ≤ h0.size) (O0 : Old Z n0 h0) (S_cs : Sta Z Z.heap "java/lang/String" "COMPACT_STRINGS" "Z" (.int cs)) (hcs : ¬ cs = (0 : Int32)) (F_c : Fld Z h0 a "java/lang/String" "coder" "B" (.int (0 : Int32))) (F_v : Fld Z h0 a "java/lang/String" "value" "[B" (.ref b)) (F_c' : Fld Z h0 a' "java/lang/String" "coder" "B" (.int (0 : Int32))) (F_v' : Fld Z h0 a' "java/lang/String" "value" "[B" (.ref b')) (E_a' : Exa Z h0 a' "java/lang/String") (V_b : Arv Z h0 b k .byte z vs (.int (0 : Int32))) (V_b' : Arv Z h0 b' k' .byte z' us (.int (0 : Int32))) (r01 : r = 0 ∨ r = 1) (hrr : r = 1 ↔ own_same_ z vs z' us) :
    MetFree l (⟨"java/lang/String", "equals", "(Ljava/lang/Object;)Z"⟩ : MethodName) (head1 (Jvm.Cond.code (⟨"java/lang/String", "equals", "(Ljava/lang/Object;)Z"⟩ : MethodName) jdk_42_method_66_code 3 (some .boolean) :: ws) ({ frames := 1, cells := 0, slots := 0, locals := 14 } : Room)) (fun as_ U => as_ = #[(.ref a), (.ref a')] ∧ Z.Warmed39 U.vm ∧ U.heap = h0) (fun _ _ _ _ _ => True) (fun _ U_ o_ V_ => ∃ v_ L_, o_ = .returned v_ ∧ own_seq_Q Z a a' cs b b' k z vs k' z' us r h0 n0 v_ V_.heap L_ ∧ FrameEnd U_ o_ V_ L_ ({ frames := 1, cells := 0, slots := 0, locals := 14 } : Room).cells ({ frames := 1, cells := 0, slots := 0, locals := 14 } : Room).slots) := by
  refine MetFree.of_bodySF (plainFor_of_name own_pn1) hisR ?_
  intro p e s m args below meth c s₁ Bd hml0 hP hK
  obtain ⟨rfl, hZ, hh⟩ := hP
  have hx := Bd.exec
  have hby := Bd.bytes
  have hml : c.maxLocals = 3 := hml0
  have hown : s.vm.findClass "java/lang/String" = some m.cls := findClass_of_methodNamed Bd.named
  have hnm := (name_of_methodNamed Bd.named Bd.method).1
  have X0 : Stand p l e ({ frames := 1, cells := 0, slots := 0, locals := 14 } : Room) s m #[(.ref a), (.ref a')] below meth c s₁ [] 0 0 := Stand.of_body Bd
  have e0 : s₁.heap = h0 := by rw [← hh, Bd.state]; rfl
  have N0 := Fr.nil n0
  refine own_begin (own_seq_ef m a a' cs b b' k z vs k' z' us r) ?_
  show Ends p.tables e below (s₁.setTop (mkF m 0 #[.val (.ref a), .val (.ref a'), .unset] [])) _
  refine s_aloadN (pc' := 1) X0.here hx (hb hby own_d14_0) rfl rfl rfl ?_
  refine s_aloadN (pc' := 2) X0.here hx (hb hby own_d14_1) rfl rfl rfl ?_
  by_cases haa : a = a'
  · refine own_via (fun t_ k_ => Jvm.RoadKit.acmp (g := (mkF m 2 #[.val (.ref a), .val (.ref a'), .unset] [(.ref a'), (.ref a)])) X0 hx rfl rfl rfl (pc0 := 2) (pc' := 5) (same := true) rfl (hb hby own_d14_2) rfl (decide_eq_true (congrArg Value.ref haa)) (by decide) (by decide) k_) ?_
    show Ends p.tables e below (s₁.setTop (mkF m 5 #[.val (.ref a), .val (.ref a'), .unset] [])) _
    refine s_iconst (pc' := 6) X0.here hx (v := (1 : Int32)) (hb hby own_d14_5) rfl rfl ?_
    have r1 : r = 1 := by
      subst haa
      have e := Value.ref.inj (own_fldSame F_v F_v')
      subst e
      exact hrr.mpr (own_arvSame V_b V_b')
    obtain ⟨fs, hr, hrun, hended, hW, hsame⟩ := X0.leave (v := some (.int (1 : Int32))) (fun h => by rw [Bd.returns] at h; cases h)
    refine ⟨_, _, retN X0 hx (t := .boolean) Bd.returns (by simp) (hb hby own_d14_6) hr, hrun, hended, _, _, rfl, ?_, ⟨_, rfl⟩, hW, hsame.mono (by decide) (by decide)⟩
    show own_seq_Q Z a a' cs b b' k z vs k' z' us r h0 n0 _ s₁.heap _
    rw [e0]
    exact ⟨by rw [r1] <;> rfl, N0, rfl⟩
  · refine own_via (fun t_ k_ => Jvm.RoadKit.acmp (g := (mkF m 2 #[.val (.ref a), .val (.ref a'), .unset] [(.ref a'), (.ref a)])) X0 hx rfl rfl rfl (pc0 := 2) (pc' := 7) (same := false) rfl (hb hby own_d14_2) rfl (decide_eq_false fun q_ => haa (Value.ref.inj q_)) (by decide) (by decide) k_) ?_
    show Ends p.tables e below (s₁.setTop (mkF m 7 #[.val (.ref a), .val (.ref a'), .unset] [])) _
    refine s_aloadN (pc' := 8) X0.here hx (hb hby own_d14_7) rfl rfl rfl ?_
    refine s_instY (pc' := 11) X0 hx hZ hown (hw _ (List.mem_of_getElem? (i := 74) rfl)) e0 (Ins.self E_a') (hb hby own_d14_8) rfl fun T1 X1 e1 => ?_
    have hk2 : ¬ ((1 : Int32) = (0 : Int32)) := by decide
    refine s_ifNo (pc' := 14) X1.here hx (hb hby own_d14_11) ((if0 _ _).trans (feq hk2).1) rfl ?_
    refine s_aloadN (pc' := 15) X1.here hx (hb hby own_d14_14) rfl rfl rfl ?_
    refine s_castY (pc' := 18) X1 hx hZ hown (hw _ (List.mem_of_getElem? (i := 74) rfl)) e1 (Ins.self E_a') (hb hby own_d14_15) rfl fun T3 X3 e3 => ?_
    refine s_astoreN (pc' := 19) X3.here hx (l' := #[.val (.ref a), .val (.ref a'), .val (.ref a')]) (hb hby own_d14_18) rfl rfl rfl ?_
    refine s_getS (pc' := 22) X3 hx hZ hown (host := "") (Or.inl (hw _ (List.mem_of_getElem? (i := 35) rfl))) Via.refl e3 (S_cs.ext O0.2) (hb hby own_d14_19) rfl fun T4 X4 e4 => ?_
    have hk5 : ¬ (cs = (0 : Int32)) := hcs
    refine s_ifNo (pc' := 25) X4.here hx (hb hby own_d14_22) ((if0 _ _).trans (feq hk5).1) rfl ?_
    refine s_aloadN (pc' := 26) X4.here hx (hb hby own_d14_25) rfl rfl rfl ?_
    refine s_getF (pc' := 29) X4 hx hZ hown (host := "") (Or.inl (hw _ (List.mem_of_getElem? (i := 31) rfl))) Via.refl e4 F_c (hb hby own_d14_26) rfl fun T6 X6 e6 => ?_
    refine s_aloadN (pc' := 30) X6.here hx (hb hby own_d14_29) rfl rfl rfl ?_
    refine s_getF (pc' := 33) X6 hx hZ hown (host := "") (Or.inl (hw _ (List.mem_of_getElem? (i := 31) rfl))) Via.refl e6 F_c' (hb hby own_d14_30) rfl fun T7 X7 e7 => ?_
    have hk8 : (0 : Int32) = (0 : Int32) := rfl
    refine s_icmpNo (pc' := 36) X7.here hx (hb hby own_d14_33) (teq hk8).2 rfl ?_
    refine s_aloadN (pc' := 37) X7.here hx (hb hby own_d14_36) rfl rfl rfl ?_
    refine s_getF (pc' := 40) X7 hx hZ hown (host := "") (Or.inl (hw _ (List.mem_of_getElem? (i := 30) rfl))) Via.refl e7 F_v (hb hby own_d14_37) rfl fun T9 X9 e9 => ?_
    refine s_aloadN (pc' := 41) X9.here hx (hb hby own_d14_40) rfl rfl rfl ?_
    refine s_getF (pc' := 44) X9 hx hZ hown (host := "") (Or.inl (hw _ (List.mem_of_getElem? (i := 30) rfl))) Via.refl e9 F_v' (hb hby own_d14_41) rfl fun T10 X10 e10 => ?_
    refine s_callS (pc' := 47) (W := 0) X10 hx hZ  hown (hw _ (List.mem_of_getElem? (i := 75) rfl)) (hw _ (List.mem_of_getElem? (i := 76) rfl)) (hw _ (List.mem_of_getElem? (i := 77) rfl)) (hw _ (List.mem_of_getElem? (i := 78) rfl)) (by decide) e10 (own_leq l Z a0 hw [] b b' k z vs k' z' us r h0 n0 Z0 V_b V_b' r01 hrr) (by rw [hml]; rfl) [(.ref b), (.ref b')] [] rfl (lenOf own_pd4 rfl) rfl (Nat.le_of_eq rfl) (by decide) (by decide) (by decide) (by decide) rfl (hb hby own_d14_44) fun T11 v11 Lc11 X11 hQ11 => ?_
    obtain ⟨rfl, Nq11, eh11⟩ := hQ11
    have N11 := Fr.app N0 Nq11
    show Ends p.tables e below (T11.setTop (mkF m 47 #[.val (.ref a), .val (.ref a'), .val (.ref a')] [(.int r)])) _
    by_cases hr0 : r = (0 : Int32)
    · refine s_ifYes (pc' := 54) X11.here hx (hb hby own_d14_47) ((if0 _ _).trans (teq hr0).1) (by decide) (by decide) ?_
      refine s_iconst (pc' := 55) X11.here hx (v := (0 : Int32)) (hb hby own_d14_54) rfl rfl ?_
      obtain ⟨fs, hr, hrun, hended, hW, hsame⟩ := X11.leave (v := some (.int (0 : Int32))) (fun h => by rw [Bd.returns] at h; cases h)
      refine ⟨_, _, retN X11 hx (t := .boolean) Bd.returns (by simp) (hb hby own_d14_55) hr, hrun, hended, _, _, rfl, ?_, ⟨_, rfl⟩, hW, hsame.mono (by decide) (by decide)⟩
      show own_seq_Q Z a a' cs b b' k z vs k' z' us r h0 n0 _ T11.heap _
      rw [eh11]
      exact ⟨by rw [hr0] <;> rfl, N11, rfl⟩
    · refine s_ifNo (pc' := 50) X11.here hx (hb hby own_d14_47) ((if0 _ _).trans (feq hr0).1) rfl ?_
      refine s_iconst (pc' := 51) X11.here hx (v := (1 : Int32)) (hb hby own_d14_50) rfl rfl ?_
      refine s_goto (pc' := 55) X11.here hx (hb hby own_d14_51) (by decide) (by decide) ?_
      obtain ⟨fs, hr, hrun, hended, hW, hsame⟩ := X11.leave (v := some (.int (1 : Int32))) (fun h => by rw [Bd.returns] at h; cases h)
      refine ⟨_, _, retN X11 hx (t := .boolean) Bd.returns (by simp) (hb hby own_d14_55) hr, hrun, hended, _, _, rfl, ?_, ⟨_, rfl⟩, hW, hsame.mono (by decide) (by decide)⟩
      show own_seq_Q Z a a' cs b b' k z vs k' z' us r h0 n0 _ T11.heap _
      rw [eh11]
      exact ⟨by rw [r01.resolve_left hr0] <;> rfl, N11, rfl⟩
def own_S (x y : Int32) : Prop := own_same_ (x &&& (3 : Int32)) (own_tx x) (y &&& (3 : Int32)) (own_tx y)
theorem own_pick (P : Prop) : ∃ r : Int32, (r = 0 ∨ r = 1) ∧ (r = 1 ↔ P) := by
  by_cases h : P
  · exact ⟨1, Or.inr rfl, fun _ => h, fun _ => rfl⟩
  · exact ⟨0, Or.inl rfl, fun q => absurd q (by decide), fun q => absurd q h⟩
theorem own_S0 {x y : Int32} (h : (0 : Int32) = x &&& (3 : Int32)) (k : (0 : Int32) = y &&& (3 : Int32)) : own_S x y := ⟨h.symm.trans k, fun i hi => by rw [← h] at hi; exact absurd hi (Nat.not_lt_zero i)⟩
theorem own_S1 {x y : Int32} (h : (1 : Int32) = x &&& (3 : Int32)) (k : (1 : Int32) = y &&& (3 : Int32)) (a : own_c x 0 = own_c y 0) : own_S x y := ⟨h.symm.trans k, fun i hi => by
  rw [← h] at hi
  match i, hi with
  | 0, _ => show Value.int (own_b x 0) = .int (own_b y 0); rw [own_b_, own_b_, a]
  | n + 1, q => exact absurd q (Nat.not_lt.mpr (Nat.le_add_left 1 n))⟩
theorem own_S2 {x y : Int32} (h : (2 : Int32) = x &&& (3 : Int32)) (k : (2 : Int32) = y &&& (3 : Int32)) (a : own_c x 0 = own_c y 0) (b : own_c x 1 = own_c y 1) : own_S x y := ⟨h.symm.trans k, fun i hi => by
  rw [← h] at hi
  match i, hi with
  | 0, _ => show Value.int (own_b x 0) = .int (own_b y 0); rw [own_b_, own_b_, a]
  | 1, _ => show Value.int (own_b x 1) = .int (own_b y 1); rw [own_b_, own_b_, b]
  | n + 2, q => exact absurd q (Nat.not_lt.mpr (Nat.le_add_left 2 n))⟩
theorem own_S3 {x y : Int32} (h : (3 : Int32) = x &&& (3 : Int32)) (k : (3 : Int32) = y &&& (3 : Int32)) (a : own_c x 0 = own_c y 0) (b : own_c x 1 = own_c y 1) (d : own_c x 2 = own_c y 2) : own_S x y := ⟨h.symm.trans k, fun i hi => by
  rw [← h] at hi
  match i, hi with
  | 0, _ => show Value.int (own_b x 0) = .int (own_b y 0); rw [own_b_, own_b_, a]
  | 1, _ => show Value.int (own_b x 1) = .int (own_b y 1); rw [own_b_, own_b_, b]
  | 2, _ => show Value.int (own_b x 2) = .int (own_b y 2); rw [own_b_, own_b_, d]
  | n + 3, q => exact absurd q (Nat.not_lt.mpr (Nat.le_add_left 3 n))⟩
theorem own_Sa {n x y : Int32} (h : n = x &&& (3 : Int32)) (q : own_S x y) (i : 0 < n.toNatClampNeg) : own_c x 0 = own_c y 0 := own_bi (Value.int.inj (q.2 0 (h ▸ i)))
theorem own_Sb {n x y : Int32} (h : n = x &&& (3 : Int32)) (q : own_S x y) (i : 1 < n.toNatClampNeg) : own_c x 1 = own_c y 1 := own_bi (Value.int.inj (q.2 1 (h ▸ i)))
theorem own_Sc {n x y : Int32} (h : n = x &&& (3 : Int32)) (q : own_S x y) (i : 2 < n.toNatClampNeg) : own_c x 2 = own_c y 2 := own_bi (Value.int.inj (q.2 2 (h ▸ i)))
theorem own_no {Z : State} {a0 : Array Value} {n : Nat} {K : String} (w1 : (Jvm.Cond.superclass "java/lang/String" "java/lang/Object").before a0 Z = true) (w2 : (Jvm.Cond.noSuperclass "java/lang/Object").before a0 Z = true) (w3 : (Jvm.Cond.instantiable K n).before a0 Z = true) (h1 : "java/lang/String" ≠ K) (h2 : "java/lang/Object" ≠ K) : ∃ c t, Z.vm.findClass "java/lang/String" = some c ∧ Z.vm.findClass K = some t ∧ Z.vm.assignable c t = false := by
  obtain ⟨t, k', g0, g2, g5, g7, -⟩ := Cond.instantiable_spec w3
  obtain ⟨o, ko, o1, o2, o3, -, -⟩ := Cond.noSuperclass_spec w2
  have neo := ids_ne o1 g0 h2
  have n0 : NS Z "java/lang/Object" K := ⟨o, t, o1, g0, fun fuel => by
    cases fuel with
    | zero => rfl
    | succ f => simp [Vm.isSubclassAux, neo, o2, o3]⟩
  obtain ⟨c, t', h0, g0', n3⟩ := NS.step w1 n0 h1
  cases g0.symm.trans g0'
  obtain ⟨p, k, kp, q1, q2, q3, q4, q5, -, q7⟩ := Cond.superclass_spec h0 w1
  have ne := ids_ne h0 g0 h1
  refine ⟨c, t, h0, g0, ?_⟩
  show Z.vm.assignableAux (255 + 1) c t = false
  have g7' : k'.isInterface = false := (Bool.or_eq_false_iff.mp g7).1
  simp [Vm.assignableAux, ne, q2, g2, q5, g5, g7', Vm.isSubclass, n3]
theorem own_d2_0 : decode method_3_code 0 = .ok (.iload_n 0, 1) := by decide +kernel
theorem own_d2_1 : decode method_3_code 1 = .ok (.iconst 3, 1) := by decide +kernel
theorem own_d2_2 : decode method_3_code 2 = .ok (.iand, 1) := by decide +kernel
theorem own_d2_3 : decode method_3_code 3 = .ok (.ireturn, 1) := by decide +kernel
theorem own_pn3 : plainName "com/example/vestbook/vestbook/AccountIdEqualsPinLaw" = true := by first | (simp [plainName, overriddenIn]; done) | decide +kernel
theorem own_len_ef (m : MethodId) (x : Int32) : entryFrame m #[(.int x)] 1 = mkF m 0 #[.val (.int x)] [] := by first | (simp [entryFrame, mkF, argsToLocals, Value.category]; done) | rfl
def own_len_Q (Z : State) (x : Int32) (h0 : Heap) (n0 : Nat) (v : Option Value) (h : Heap) (L : List Loc) : Prop := v = some (.int (x &&& (3 : Int32))) ∧ Fr n0 L ∧ h = h0
set_option maxRecDepth 65536 in
set_option maxHeartbeats 40000000 in
theorem own_len (l : Launch) (Z : State) (a0 : Array Value) (hw : ∀ d ∈ tables_1, d.before a0 Z = true) (ws : List Jvm.Cond) (x : Int32) (h0 : Heap) (n0 : Nat) (Z0 : n0 ≤ h0.size) :
    MetFree l (⟨"com/example/vestbook/vestbook/AccountIdEqualsPinLaw", "len", "(I)I"⟩ : MethodName) (head1 (Jvm.Cond.code (⟨"com/example/vestbook/vestbook/AccountIdEqualsPinLaw", "len", "(I)I"⟩ : MethodName) method_3_code 1 (some .int) :: ws) ({ frames := 0, cells := 0, slots := 0, locals := 0 } : Room)) (fun as_ U => as_ = #[(.int x)] ∧ Z.Warmed39 U.vm ∧ U.heap = h0) (fun _ _ _ _ _ => True) (fun _ U_ o_ V_ => ∃ v_ L_, o_ = .returned v_ ∧ own_len_Q Z x h0 n0 v_ V_.heap L_ ∧ FrameEnd U_ o_ V_ L_ ({ frames := 0, cells := 0, slots := 0, locals := 0 } : Room).cells ({ frames := 0, cells := 0, slots := 0, locals := 0 } : Room).slots) := by
  refine MetFree.of_bodySF (plainFor_of_name own_pn3) hisR ?_
  intro p e s m args below meth c s₁ Bd hml0 hP hK
  obtain ⟨rfl, hZ, hh⟩ := hP
  have hx := Bd.exec
  have hby := Bd.bytes
  have hml : c.maxLocals = 1 := hml0
  have hown : s.vm.findClass "com/example/vestbook/vestbook/AccountIdEqualsPinLaw" = some m.cls := findClass_of_methodNamed Bd.named
  have hnm := (name_of_methodNamed Bd.named Bd.method).1
  have X0 : Stand p l e ({ frames := 0, cells := 0, slots := 0, locals := 0 } : Room) s m #[(.int x)] below meth c s₁ [] 0 0 := Stand.of_body Bd
  have e0 : s₁.heap = h0 := by rw [← hh, Bd.state]; rfl
  have N0 := Fr.nil n0
  refine own_begin (own_len_ef m x) ?_
  show Ends p.tables e below (s₁.setTop (mkF m 0 #[.val (.int x)] [])) _
  refine s_iloadN (pc' := 1) X0.here hx (hb hby own_d2_0) rfl rfl ?_
  refine s_iconst (pc' := 2) X0.here hx (v := (3 : Int32)) (hb hby own_d2_1) rfl rfl ?_
  refine s_iand (pc' := 3) X0.here hx (hb hby own_d2_2) rfl ?_
  obtain ⟨fs, hr, hrun, hended, hW, hsame⟩ := X0.leave (v := some (.int (x &&& (3 : Int32)))) (fun h => by rw [Bd.returns] at h; cases h)
  refine ⟨_, _, retOut X0 hx Bd.returns rfl (Or.inl ⟨rfl, Or.inl rfl, _, rfl⟩) (hb hby own_d2_3) hr, hrun, hended, _, _, rfl, ?_, ⟨_, rfl⟩, hW, hsame.mono (by decide) (by decide)⟩
  show own_len_Q Z x h0 n0 _ s₁.heap _
  rw [e0]
  exact ⟨rfl, N0, rfl⟩
theorem own_d6_0 : decode method_4_code 0 = .ok (.iload_n 0, 1) := by decide +kernel
theorem own_d6_1 : decode method_4_code 1 = .ok (.iconst 2, 1) := by decide +kernel
theorem own_d6_2 : decode method_4_code 2 = .ok (.bipush 8, 2) := by decide +kernel
theorem own_d6_4 : decode method_4_code 4 = .ok (.iload_n 1, 1) := by decide +kernel
theorem own_d6_5 : decode method_4_code 5 = .ok (.imul, 1) := by decide +kernel
theorem own_d6_6 : decode method_4_code 6 = .ok (.iadd, 1) := by decide +kernel
theorem own_d6_7 : decode method_4_code 7 = .ok (.iushr, 1) := by decide +kernel
theorem own_d6_8 : decode method_4_code 8 = .ok (.sipush 255, 3) := by decide +kernel
theorem own_d6_11 : decode method_4_code 11 = .ok (.iand, 1) := by decide +kernel
theorem own_d6_12 : decode method_4_code 12 = .ok (.i2c, 1) := by decide +kernel
theorem own_d6_13 : decode method_4_code 13 = .ok (.ireturn, 1) := by decide +kernel
theorem own_chr_ef (m : MethodId) (x : Int32) (i : Int32) : entryFrame m #[(.int x), (.int i)] 2 = mkF m 0 #[.val (.int x), .val (.int i)] [] := by first | (simp [entryFrame, mkF, argsToLocals, Value.category]; done) | rfl
def own_chr_Q (Z : State) (x : Int32) (i : Int32) (h0 : Heap) (n0 : Nat) (v : Option Value) (h : Heap) (L : List Loc) : Prop := v = some (.int (own_c x i)) ∧ Fr n0 L ∧ h = h0
set_option maxRecDepth 65536 in
set_option maxHeartbeats 40000000 in
theorem own_chr (l : Launch) (Z : State) (a0 : Array Value) (hw : ∀ d ∈ tables_1, d.before a0 Z = true) (ws : List Jvm.Cond) (x : Int32) (i : Int32) (h0 : Heap) (n0 : Nat) (Z0 : n0 ≤ h0.size) :
    MetFree l (⟨"com/example/vestbook/vestbook/AccountIdEqualsPinLaw", "ch", "(II)C"⟩ : MethodName) (head1 (Jvm.Cond.code (⟨"com/example/vestbook/vestbook/AccountIdEqualsPinLaw", "ch", "(II)C"⟩ : MethodName) method_4_code 2 (some .char) :: ws) ({ frames := 0, cells := 0, slots := 0, locals := 0 } : Room)) (fun as_ U => as_ = #[(.int x), (.int i)] ∧ Z.Warmed39 U.vm ∧ U.heap = h0) (fun _ _ _ _ _ => True) (fun _ U_ o_ V_ => ∃ v_ L_, o_ = .returned v_ ∧ own_chr_Q Z x i h0 n0 v_ V_.heap L_ ∧ FrameEnd U_ o_ V_ L_ ({ frames := 0, cells := 0, slots := 0, locals := 0 } : Room).cells ({ frames := 0, cells := 0, slots := 0, locals := 0 } : Room).slots) := by
  refine MetFree.of_bodySF (plainFor_of_name own_pn3) hisR ?_
  intro p e s m args below meth c s₁ Bd hml0 hP hK
  obtain ⟨rfl, hZ, hh⟩ := hP
  have hx := Bd.exec
  have hby := Bd.bytes
  have hml : c.maxLocals = 2 := hml0
  have hown : s.vm.findClass "com/example/vestbook/vestbook/AccountIdEqualsPinLaw" = some m.cls := findClass_of_methodNamed Bd.named
  have hnm := (name_of_methodNamed Bd.named Bd.method).1
  have X0 : Stand p l e ({ frames := 0, cells := 0, slots := 0, locals := 0 } : Room) s m #[(.int x), (.int i)] below meth c s₁ [] 0 0 := Stand.of_body Bd
  have e0 : s₁.heap = h0 := by rw [← hh, Bd.state]; rfl
  have N0 := Fr.nil n0
  refine own_begin (own_chr_ef m x i) ?_
  show Ends p.tables e below (s₁.setTop (mkF m 0 #[.val (.int x), .val (.int i)] [])) _
  refine s_iloadN (pc' := 1) X0.here hx (hb hby own_d6_0) rfl rfl ?_
  refine s_iconst (pc' := 2) X0.here hx (v := (2 : Int32)) (hb hby own_d6_1) rfl rfl ?_
  refine s_bipush (pc' := 4) X0.here hx (v := (8 : Int32)) (hb hby own_d6_2) rfl rfl ?_
  refine s_iloadN (pc' := 5) X0.here hx (hb hby own_d6_4) rfl rfl ?_
  refine s_imul (pc' := 6) X0.here hx (hb hby own_d6_5) rfl ?_
  refine s_iadd (pc' := 7) X0.here hx (hb hby own_d6_6) rfl ?_
  refine s_iushr (pc' := 8) X0.here hx (hb hby own_d6_7) rfl ?_
  refine s_sipush (pc' := 11) X0.here hx (v := (255 : Int32)) (hb hby own_d6_8) rfl rfl ?_
  refine s_iand (pc' := 12) X0.here hx (hb hby own_d6_11) rfl ?_
  refine s_i2c (pc' := 13) X0.here hx (hb hby own_d6_12) rfl ?_
  obtain ⟨fs, hr, hrun, hended, hW, hsame⟩ := X0.leave (v := some (.int (nar .char ((((x.toUInt32 >>> (((2 : Int32) + ((8 : Int32) * i)) &&& 31).toUInt32).toInt32) &&& (255 : Int32)).toUInt32.toUInt16.toUInt32.toInt32)))) (fun h => by rw [Bd.returns] at h; cases h)
  refine ⟨_, _, retN X0 hx (t := .char) Bd.returns (by simp) (hb hby own_d6_13) hr, hrun, hended, _, _, rfl, ?_, ⟨_, rfl⟩, hW, hsame.mono (by decide) (by decide)⟩
  show own_chr_Q Z x i h0 n0 _ s₁.heap _
  rw [e0]
  exact ⟨by rw [own_ch] <;> rfl, N0, rfl⟩
theorem own_d1_0 : decode method_5_code 0 = .ok (.iload_n 0, 1) := by decide +kernel
theorem own_d1_1 : decode method_5_code 1 = .ok (.invokestatic 26, 3) := by decide +kernel
theorem own_pd5 : parseMethodDescriptor "(I)I" = some ⟨[.int], some .int⟩ := by decide +kernel
theorem own_d1_4 : decode method_5_code 4 = .ok (.istore_n 1, 1) := by decide +kernel
theorem own_d1_5 : decode method_5_code 5 = .ok (.iload_n 1, 1) := by decide +kernel
theorem own_d1_6 : decode method_5_code 6 = .ok (.ifCond .ne 10, 3) := by decide +kernel
theorem own_d1_9 : decode method_5_code 9 = .ok (.iconst 0, 1) := by decide +kernel
theorem own_d1_10 : decode method_5_code 10 = .ok (.newarray .char, 2) := by decide +kernel
theorem own_d1_12 : decode method_5_code 12 = .ok (.astore_n 2, 1) := by decide +kernel
theorem own_d1_13 : decode method_5_code 13 = .ok (.goto 79, 3) := by decide +kernel
theorem own_d1_92 : decode method_5_code 92 = .ok (.new 34, 3) := by decide +kernel
theorem own_d1_95 : decode method_5_code 95 = .ok (.dup, 1) := by decide +kernel
theorem own_d1_96 : decode method_5_code 96 = .ok (.aload_n 2, 1) := by decide +kernel
theorem own_d1_97 : decode method_5_code 97 = .ok (.invokespecial 36, 3) := by decide +kernel
theorem own_pd6 : parseMethodDescriptor "([C)V" = some ⟨[(.array .char)], none⟩ := by decide +kernel
theorem own_d1_100 : decode method_5_code 100 = .ok (.areturn, 1) := by decide +kernel
theorem own_d1_16 : decode method_5_code 16 = .ok (.iload_n 1, 1) := by decide +kernel
theorem own_d1_17 : decode method_5_code 17 = .ok (.iconst 1, 1) := by decide +kernel
theorem own_d1_18 : decode method_5_code 18 = .ok (.if_icmp .ne 18, 3) := by decide +kernel
theorem own_d1_21 : decode method_5_code 21 = .ok (.iconst 1, 1) := by decide +kernel
theorem own_d1_22 : decode method_5_code 22 = .ok (.newarray .char, 2) := by decide +kernel
theorem own_d1_24 : decode method_5_code 24 = .ok (.dup, 1) := by decide +kernel
theorem own_d1_25 : decode method_5_code 25 = .ok (.iconst 0, 1) := by decide +kernel
theorem own_d1_26 : decode method_5_code 26 = .ok (.iload_n 0, 1) := by decide +kernel
theorem own_d1_27 : decode method_5_code 27 = .ok (.iconst 0, 1) := by decide +kernel
theorem own_d1_28 : decode method_5_code 28 = .ok (.invokestatic 30, 3) := by decide +kernel
theorem own_pd7 : parseMethodDescriptor "(II)C" = some ⟨[.int, .int], some .char⟩ := by decide +kernel
theorem own_d1_31 : decode method_5_code 31 = .ok (.castore, 1) := by decide +kernel
theorem own_d1_32 : decode method_5_code 32 = .ok (.astore_n 2, 1) := by decide +kernel
theorem own_d1_33 : decode method_5_code 33 = .ok (.goto 59, 3) := by decide +kernel
theorem own_d1_36 : decode method_5_code 36 = .ok (.iload_n 1, 1) := by decide +kernel
theorem own_d1_37 : decode method_5_code 37 = .ok (.iconst 2, 1) := by decide +kernel
theorem own_d1_38 : decode method_5_code 38 = .ok (.if_icmp .ne 26, 3) := by decide +kernel
theorem own_d1_41 : decode method_5_code 41 = .ok (.iconst 2, 1) := by decide +kernel
theorem own_d1_42 : decode method_5_code 42 = .ok (.newarray .char, 2) := by decide +kernel
theorem own_d1_44 : decode method_5_code 44 = .ok (.dup, 1) := by decide +kernel
theorem own_d1_45 : decode method_5_code 45 = .ok (.iconst 0, 1) := by decide +kernel
theorem own_d1_46 : decode method_5_code 46 = .ok (.iload_n 0, 1) := by decide +kernel
theorem own_d1_47 : decode method_5_code 47 = .ok (.iconst 0, 1) := by decide +kernel
theorem own_d1_48 : decode method_5_code 48 = .ok (.invokestatic 30, 3) := by decide +kernel
theorem own_d1_51 : decode method_5_code 51 = .ok (.castore, 1) := by decide +kernel
theorem own_d1_52 : decode method_5_code 52 = .ok (.dup, 1) := by decide +kernel
theorem own_d1_53 : decode method_5_code 53 = .ok (.iconst 1, 1) := by decide +kernel
theorem own_d1_54 : decode method_5_code 54 = .ok (.iload_n 0, 1) := by decide +kernel
theorem own_d1_55 : decode method_5_code 55 = .ok (.iconst 1, 1) := by decide +kernel
theorem own_d1_56 : decode method_5_code 56 = .ok (.invokestatic 30, 3) := by decide +kernel
theorem own_d1_59 : decode method_5_code 59 = .ok (.castore, 1) := by decide +kernel
theorem own_d1_60 : decode method_5_code 60 = .ok (.astore_n 2, 1) := by decide +kernel
theorem own_d1_61 : decode method_5_code 61 = .ok (.goto 31, 3) := by decide +kernel
theorem own_d1_64 : decode method_5_code 64 = .ok (.iconst 3, 1) := by decide +kernel
theorem own_d1_65 : decode method_5_code 65 = .ok (.newarray .char, 2) := by decide +kernel
theorem own_d1_67 : decode method_5_code 67 = .ok (.dup, 1) := by decide +kernel
theorem own_d1_68 : decode method_5_code 68 = .ok (.iconst 0, 1) := by decide +kernel
theorem own_d1_69 : decode method_5_code 69 = .ok (.iload_n 0, 1) := by decide +kernel
theorem own_d1_70 : decode method_5_code 70 = .ok (.iconst 0, 1) := by decide +kernel
theorem own_d1_71 : decode method_5_code 71 = .ok (.invokestatic 30, 3) := by decide +kernel
theorem own_d1_74 : decode method_5_code 74 = .ok (.castore, 1) := by decide +kernel
theorem own_d1_75 : decode method_5_code 75 = .ok (.dup, 1) := by decide +kernel
theorem own_d1_76 : decode method_5_code 76 = .ok (.iconst 1, 1) := by decide +kernel
theorem own_d1_77 : decode method_5_code 77 = .ok (.iload_n 0, 1) := by decide +kernel
theorem own_d1_78 : decode method_5_code 78 = .ok (.iconst 1, 1) := by decide +kernel
theorem own_d1_79 : decode method_5_code 79 = .ok (.invokestatic 30, 3) := by decide +kernel
theorem own_d1_82 : decode method_5_code 82 = .ok (.castore, 1) := by decide +kernel
theorem own_d1_83 : decode method_5_code 83 = .ok (.dup, 1) := by decide +kernel
theorem own_d1_84 : decode method_5_code 84 = .ok (.iconst 2, 1) := by decide +kernel
theorem own_d1_85 : decode method_5_code 85 = .ok (.iload_n 0, 1) := by decide +kernel
theorem own_d1_86 : decode method_5_code 86 = .ok (.iconst 2, 1) := by decide +kernel
theorem own_d1_87 : decode method_5_code 87 = .ok (.invokestatic 30, 3) := by decide +kernel
theorem own_d1_90 : decode method_5_code 90 = .ok (.castore, 1) := by decide +kernel
theorem own_d1_91 : decode method_5_code 91 = .ok (.astore_n 2, 1) := by decide +kernel
theorem own_text_ef (m : MethodId) (x : Int32) (cs : Int32) : entryFrame m #[(.int x)] 3 = mkF m 0 #[.val (.int x), .unset, .unset] [] := by first | (simp [entryFrame, mkF, argsToLocals, Value.category]; done) | rfl
def own_text_Q (Z : State) (x : Int32) (cs : Int32) (h0 : Heap) (n0 : Nat) (v : Option Value) (h : Heap) (L : List Loc) : Prop := ∃ a b kb, v = some (.ref a) ∧ Fr n0 L ∧ Keep h0 h [] ∧ h0.size ≤ a ∧ Exa Z h a "java/lang/String" ∧ Fld Z h a "java/lang/String" "coder" "B" (.int (0 : Int32)) ∧ Fld Z h a "java/lang/String" "value" "[B" (.ref b) ∧ Arv Z h b kb .byte (x &&& (3 : Int32)) (own_tx x) (.int (0 : Int32))
set_option maxRecDepth 65536 in
set_option maxHeartbeats 40000000 in
theorem own_text (l : Launch) (Z : State) (a0 : Array Value) (hw : ∀ d ∈ tables_1, d.before a0 Z = true) (ws : List Jvm.Cond) (x : Int32) (cs : Int32) (h0 : Heap) (n0 : Nat) (Z0 : n0 ≤ h0.size) (O0 : Old Z n0 h0) (S_cs : Sta Z Z.heap "java/lang/String" "COMPACT_STRINGS" "Z" (.int cs)) (hcs : ¬ cs = (0 : Int32)) :
    MetFree l (⟨"com/example/vestbook/vestbook/AccountIdEqualsPinLaw", "text", "(I)Ljava/lang/String;"⟩ : MethodName) (head1 (Jvm.Cond.code (⟨"com/example/vestbook/vestbook/AccountIdEqualsPinLaw", "text", "(I)Ljava/lang/String;"⟩ : MethodName) method_5_code 3 (some (.object "java/lang/String")) :: ws) ({ frames := 4, cells := 6, slots := 12, locals := 66 } : Room)) (fun as_ U => as_ = #[(.int x)] ∧ Z.Warmed39 U.vm ∧ U.heap = h0 ∧ CHv Z consts_1 U.vm h0 ∧ ∀ x_ ∈ ([] : List Addr), Safe Z consts_1 U.vm h0 x_) (fun _ _ _ _ _ => True) (fun _ U_ o_ V_ => ∃ v_ L_, o_ = .returned v_ ∧ own_text_Q Z x cs h0 n0 v_ V_.heap L_ ∧ CHr Z consts_1 U_.vm U_.heap V_.vm V_.heap ∧ ReturnedEndW U_ o_ V_ L_ ({ frames := 4, cells := 6, slots := 12, locals := 66 } : Room).cells ({ frames := 4, cells := 6, slots := 12, locals := 66 } : Room).slots) := by
  refine MetFree.of_bodySF (plainFor_of_name own_pn3) hisR ?_
  intro p e s m args below meth c s₁ Bd hml0 hP hK
  obtain ⟨rfl, hZ, hh, HC0, hsf0⟩ := hP
  have hx := Bd.exec
  have hby := Bd.bytes
  have hml : c.maxLocals = 3 := hml0
  have hown : s.vm.findClass "com/example/vestbook/vestbook/AccountIdEqualsPinLaw" = some m.cls := findClass_of_methodNamed Bd.named
  have hnm := (name_of_methodNamed Bd.named Bd.method).1
  have X0 : Stand p l e ({ frames := 4, cells := 6, slots := 12, locals := 66 } : Room) s m #[(.int x)] below meth c s₁ [] 0 0 := Stand.of_body Bd
  have e0 : s₁.heap = h0 := by rw [← hh, Bd.state]; rfl
  have N0 := Fr.nil n0
  refine own_begin (own_text_ef m x cs) ?_
  show Ends p.tables e below (s₁.setTop (mkF m 0 #[.val (.int x), .unset, .unset] [])) _
  have Kr0 : Keep h0 h0 [] := Keep.refl h0 _
  have HR0 : CHr Z consts_1 s.vm h0 s.vm h0 := CHr.refl HC0
  have X0w : Stand p l e ({ frames := 4, cells := 6, slots := 12, locals := 66 } : Room) (s.setVm s.vm) m #[(.int x)] below meth c s₁ [] 0 0 := X0
  have hS : s.Since s.vm 0 := (State.WarmedH.refl s).since 0
  have hk : 0 ≤ h0.size := Nat.zero_le _
  refine s_iloadN (pc' := 1) X0w.here hx (hb hby own_d1_0) rfl rfl ?_
  refine s_callS (pc' := 4) (W := 0) X0w hx hZ  hown (hw _ (List.mem_of_getElem? (i := 7) rfl)) (hw _ (List.mem_of_getElem? (i := 8) rfl)) (hw _ (List.mem_of_getElem? (i := 5) rfl)) (hw _ (List.mem_of_getElem? (i := 9) rfl)) (by decide) e0 (own_len l Z a0 hw [] x h0 n0 Z0 ) (by rw [hml]; rfl) [(.int x)] [] rfl (lenOf own_pd5 rfl) rfl (Nat.le_of_eq rfl) (by decide) (by decide) (by decide) (by decide) rfl (hb hby own_d1_1) fun T1 v1 Lc1 X1 hQ1 => ?_
  obtain ⟨rfl, Nq1, eh1⟩ := hQ1
  have N1 := Fr.app N0 Nq1
  show Ends p.tables e below (T1.setTop (mkF m 4 #[.val (.int x), .unset, .unset] [(.int (x &&& (3 : Int32)))])) _
  obtain ⟨n3, hn3⟩ : ∃ z : Int32, z = (x &&& (3 : Int32)) := ⟨_, rfl⟩
  rw [← hn3]
  have h4 := own_n3 x n3 hn3
  refine s_istoreN (pc' := 5) X1.here hx (l' := #[.val (.int x), .val (.int n3), .unset]) (hb hby own_d1_4) rfl rfl ?_
  refine s_iloadN (pc' := 6) X1.here hx (hb hby own_d1_5) rfl rfl ?_
  rcases h4 with hq_ | hq_ | hq_ | hq_
  · subst hq_
    have hk2 : (0 : Int32) = (0 : Int32) := rfl
    refine s_ifNo (pc' := 9) X1.here hx (hb hby own_d1_6) ((if0 _ _).trans (teq hk2).2) rfl ?_
    refine s_iconst (pc' := 10) X1.here hx (v := (0 : Int32)) (hb hby own_d1_9) rfl rfl ?_
    refine s_newP (pc' := 12) (cap := 0) X1 hx hZ (hw _ (List.mem_of_getElem? (i := 10) rfl)) eh1 (hb hby own_d1_10) (by decide) (by decide) (by decide) (by decide) (by decide) rfl fun T3 hp3 X3 e3 ka3 E3 ca gq3 A3 => ?_
    have g_ca : n0 ≤ ca := Nat.le_trans Z0 (Nat.le_of_eq gq3.symm)
    have sz_ca : h0.size ≤ ca := Nat.le_trans Kr0.1 (Nat.le_of_eq gq3.symm)
    have sf4 := Safe.ext E3 HC0 (Safe.new (Nat.le_of_eq gq3.symm))
    have HR5 := CHr.trans HR0 (CHr.ext E3 HC0)
    have HC6 := CHv.ext E3 HC0
    have O7 := O0.ext E3
    replace hk := Nat.le_trans hk E3.1
    have Z8 : n0 ≤ hp3.size := Nat.le_trans Z0 E3.1
    have K9 : Keep h0 hp3 [] := Kr0.ext E3
    have V10 : Arv Z hp3 ca ka3 .char (0 : Int32) [] (.int (0 : Int32)) := (Arv.new A3 (by decide)).pad (pad_rep [] (.int (0 : Int32)) 0)
    refine s_astoreN (pc' := 13) X3.here hx (l' := #[.val (.int x), .val (.int (0 : Int32)), .val (.ref ca)]) (hb hby own_d1_12) rfl rfl rfl ?_
    refine s_goto (pc' := 92) X3.here hx (hb hby own_d1_13) (by decide) (by decide) ?_
    refine s_newO (pc' := 95) X3 hx hZ hown (hw _ (List.mem_of_getElem? (i := 11) rfl)) (hw _ (List.mem_of_getElem? (i := 12) rfl)) (hw _ (List.mem_of_getElem? (i := 13) rfl)) e3 (hb hby own_d1_92) (by decide) (by decide) rfl fun T11 hp11 X11 e11 E11 a gq11 A11 D11 => ?_
    have g_a : n0 ≤ a := Nat.le_trans Z8 (Nat.le_of_eq gq11.symm)
    have sz_a : h0.size ≤ a := Nat.le_trans K9.1 (Nat.le_of_eq gq11.symm)
    have ne12 : ca ≠ a := Nat.ne_of_lt (Nat.lt_of_lt_of_le V10.lt (Nat.le_of_eq gq11.symm))
    have sf13 := Safe.ext E11 HC6 (Safe.new (Nat.le_of_eq gq11.symm))
    have sf14 := Safe.ext E11 HC6 sf4
    have HR15 := CHr.trans HR5 (CHr.ext E11 HC6)
    have HC16 := CHv.ext E11 HC6
    have O17 := O7.ext E11
    have f18 := V10.ext E11
    replace hk := Nat.le_trans hk E11.1
    have Z19 : n0 ≤ hp11.size := Nat.le_trans Z8 E11.1
    have K20 : Keep h0 hp11 [] := K9.ext E11
    have F21 : Fld Z hp11 a "java/lang/String" "value" "[B" .null := D11 (Or.inr (hw _ (List.mem_of_getElem? (i := 26) rfl))) (ty := (.array .byte)) (by decide)
    have F22 : Fld Z hp11 a "java/lang/String" "coder" "B" (.int (0 : Int32)) := D11 (Or.inr (hw _ (List.mem_of_getElem? (i := 27) rfl))) (ty := .byte) (by decide)
    refine s_dup (pc' := 96) X11.here hx (hb hby own_d1_95) rfl rfl ?_
    refine s_aloadN (pc' := 97) X11.here hx (hb hby own_d1_96) rfl rfl rfl ?_
    refine s_callIH (pc' := 100) (W := 1) X11 hx hZ hS hk (own_EW hw) HC16  hown rfl (hw _ (List.mem_of_getElem? (i := 14) rfl)) (hw _ (List.mem_of_getElem? (i := 15) rfl)) (hw _ (List.mem_of_getElem? (i := 13) rfl)) (hw _ (List.mem_of_getElem? (i := 16) rfl)) (by decide) e11 (own_si1_0 l Z a0 hw [] a ca ka3 hp11 n0 Z19 F21 F22 A11 g_a f18) (own_safeS A11.lt sf13 own_safe0) a (by rw [hml]; rfl) [(.ref ca)] [(.ref a)] rfl (lenOf own_pd6 rfl) rfl (Nat.le_of_eq rfl) (by decide) (by decide) (by decide) (by decide) rfl (hb hby own_d1_97) fun T23 v23 Lc23 X23 hS hZ hown hr23 hQ23 => ?_
    obtain ⟨b, kb, rfl, Nq23, Kq23, Ea, Fc, Fv, Vb⟩ := hQ23
    have sf24 := CHr.safe hr23 f18.lt sf14
    have sf25 := CHr.safe hr23 A11.lt sf13
    have HR26 := CHr.trans HR15 (hr23)
    have HC27 := hr23.1
    have O28 := O17.keep Kq23 (allS g_a all0)
    have N23 := Fr.app N1 Nq23
    have hk : T23.heap.size ≤ T23.heap.size := Nat.le_refl _
    have f29 := A11.keep Kq23
    have Z30 : n0 ≤ T23.heap.size := Nat.le_trans Z19 Kq23.1
    have K31 : Keep h0 T23.heap [] := K20.trans Kq23 (allS (Or.inr sz_a) all0)
    show Ends p.tables e below (T23.setTop (mkF m 100 #[.val (.int x), .val (.int (0 : Int32)), .val (.ref ca)] [(.ref a)])) _
    obtain ⟨fs, hr, hrun, hended, hRW⟩ := X23.leaveW hS (show _ ≤ T23.heap.size from hk) (v := some (.ref a)) (fun h => by rw [Bd.returns] at h; cases h)
    have hfin : CHr Z consts_1 s.vm s.heap T23.vm T23.heap := by rw [hh]; exact CHr.trans HR26 (CHv.at X23 hZ (own_EW hw) HC27)
    refine ⟨_, _, retOut X23 hx Bd.returns rfl (Or.inr (Or.inr (Or.inr (Or.inr ⟨rfl, rfl, rfl⟩)))) (hb hby own_d1_100) hr, hrun, hended, _, _, rfl, ?_, hfin, own_rwm hRW (by decide) (by decide)⟩
    show own_text_Q Z x cs h0 n0 _ T23.heap _
    exact ⟨a, b, kb, rfl, N23, K31, sz_a, Ea, Fc, Fv, own_txN hn3 rfl Vb⟩
  · subst hq_
    have hk32 : ¬ ((1 : Int32) = (0 : Int32)) := by decide
    refine s_ifYes (pc' := 16) X1.here hx (hb hby own_d1_6) ((if0 _ _).trans (feq hk32).2) (by decide) (by decide) ?_
    refine s_iloadN (pc' := 17) X1.here hx (hb hby own_d1_16) rfl rfl ?_
    refine s_iconst (pc' := 18) X1.here hx (v := (1 : Int32)) (hb hby own_d1_17) rfl rfl ?_
    have hk33 : (1 : Int32) = (1 : Int32) := rfl
    refine s_icmpNo (pc' := 21) X1.here hx (hb hby own_d1_18) (teq hk33).2 rfl ?_
    refine s_iconst (pc' := 22) X1.here hx (v := (1 : Int32)) (hb hby own_d1_21) rfl rfl ?_
    refine s_newP (pc' := 24) (cap := 1) X1 hx hZ (hw _ (List.mem_of_getElem? (i := 10) rfl)) eh1 (hb hby own_d1_22) (by decide) (by decide) (by decide) (by decide) (by decide) rfl fun T34 hp34 X34 e34 ka34 E34 ca gq34 A34 => ?_
    have g_ca : n0 ≤ ca := Nat.le_trans Z0 (Nat.le_of_eq gq34.symm)
    have sz_ca : h0.size ≤ ca := Nat.le_trans Kr0.1 (Nat.le_of_eq gq34.symm)
    have sf35 := Safe.ext E34 HC0 (Safe.new (Nat.le_of_eq gq34.symm))
    have HR36 := CHr.trans HR0 (CHr.ext E34 HC0)
    have HC37 := CHv.ext E34 HC0
    have O38 := O0.ext E34
    replace hk := Nat.le_trans hk E34.1
    have Z39 : n0 ≤ hp34.size := Nat.le_trans Z0 E34.1
    have K40 : Keep h0 hp34 [] := Kr0.ext E34
    have V41 : Arv Z hp34 ca ka34 .char (1 : Int32) [(.int (0 : Int32))] (.int (0 : Int32)) := (Arv.new A34 (by decide)).pad (pad_rep [] (.int (0 : Int32)) 1)
    refine s_dup (pc' := 25) X34.here hx (hb hby own_d1_24) rfl rfl ?_
    refine s_iconst (pc' := 26) X34.here hx (v := (0 : Int32)) (hb hby own_d1_25) rfl rfl ?_
    refine s_iloadN (pc' := 27) X34.here hx (hb hby own_d1_26) rfl rfl ?_
    refine s_iconst (pc' := 28) X34.here hx (v := (0 : Int32)) (hb hby own_d1_27) rfl rfl ?_
    refine s_callS (pc' := 31) (W := 3) X34 hx hZ  hown (hw _ (List.mem_of_getElem? (i := 32) rfl)) (hw _ (List.mem_of_getElem? (i := 33) rfl)) (hw _ (List.mem_of_getElem? (i := 5) rfl)) (hw _ (List.mem_of_getElem? (i := 34) rfl)) (by decide) e34 (own_chr l Z a0 hw [] x (0 : Int32) hp34 n0 Z39 ) (by rw [hml]; rfl) [(.int x), (.int (0 : Int32))] [(.int (0 : Int32)), (.ref ca), (.ref ca)] rfl (lenOf own_pd7 rfl) rfl (Nat.le_of_eq rfl) (by decide) (by decide) (by decide) (by decide) rfl (hb hby own_d1_28) fun T42 v42 Lc42 X42 hQ42 => ?_
    obtain ⟨rfl, Nq42, eh42⟩ := hQ42
    have N42 := Fr.app N1 Nq42
    show Ends p.tables e below (T42.setTop (mkF m 31 #[.val (.int x), .val (.int (1 : Int32)), .unset] [(.int (own_c x (0 : Int32))), (.int (0 : Int32)), (.ref ca), (.ref ca)])) _
    refine s_putC (pc' := 32) X42 hx hZ eh42 V41 ⟨by decide, by decide⟩ 0 rfl (Nat.le_of_ble_eq_true rfl) (hb hby own_d1_31) rfl fun T43 hp43 X43 e43 W43 Vw43 => ?_
    have V44 : Arv Z hp43 ca ka34 .char (1 : Int32) [(.int (nar .char (own_c x (0 : Int32))))] (.int (0 : Int32)) := Vw43
    have N43 := Fr.snoc X43 N42 g_ca
    have sf45 := Safe.wr W43 sf35 HC37 sf35
    have HR46 := CHr.trans HR36 (CHr.wr W43 sf35 HC37)
    have HC47 := CHv.wr W43 sf35 HC37
    have O48 := O38.wr W43 g_ca
    replace hk := Nat.le_trans hk (Keep.of_wr W43).1
    have Z49 : n0 ≤ hp43.size := Nat.le_trans Z39 (Keep.of_wr W43).1
    have K50 : Keep h0 hp43 [] := K40.wr W43 (Or.inr sz_ca)
    refine s_astoreN (pc' := 33) X43.here hx (l' := #[.val (.int x), .val (.int (1 : Int32)), .val (.ref ca)]) (hb hby own_d1_32) rfl rfl rfl ?_
    refine s_goto (pc' := 92) X43.here hx (hb hby own_d1_33) (by decide) (by decide) ?_
    refine s_newO (pc' := 95) X43 hx hZ hown (hw _ (List.mem_of_getElem? (i := 11) rfl)) (hw _ (List.mem_of_getElem? (i := 12) rfl)) (hw _ (List.mem_of_getElem? (i := 13) rfl)) e43 (hb hby own_d1_92) (by decide) (by decide) rfl fun T51 hp51 X51 e51 E51 a gq51 A51 D51 => ?_
    have g_a : n0 ≤ a := Nat.le_trans Z49 (Nat.le_of_eq gq51.symm)
    have sz_a : h0.size ≤ a := Nat.le_trans K50.1 (Nat.le_of_eq gq51.symm)
    have ne52 : ca ≠ a := Nat.ne_of_lt (Nat.lt_of_lt_of_le V44.lt (Nat.le_of_eq gq51.symm))
    have sf53 := Safe.ext E51 HC47 (Safe.new (Nat.le_of_eq gq51.symm))
    have sf54 := Safe.ext E51 HC47 sf45
    have HR55 := CHr.trans HR46 (CHr.ext E51 HC47)
    have HC56 := CHv.ext E51 HC47
    have O57 := O48.ext E51
    have f58 := V44.ext E51
    replace hk := Nat.le_trans hk E51.1
    have Z59 : n0 ≤ hp51.size := Nat.le_trans Z49 E51.1
    have K60 : Keep h0 hp51 [] := K50.ext E51
    have F61 : Fld Z hp51 a "java/lang/String" "value" "[B" .null := D51 (Or.inr (hw _ (List.mem_of_getElem? (i := 26) rfl))) (ty := (.array .byte)) (by decide)
    have F62 : Fld Z hp51 a "java/lang/String" "coder" "B" (.int (0 : Int32)) := D51 (Or.inr (hw _ (List.mem_of_getElem? (i := 27) rfl))) (ty := .byte) (by decide)
    refine s_dup (pc' := 96) X51.here hx (hb hby own_d1_95) rfl rfl ?_
    refine s_aloadN (pc' := 97) X51.here hx (hb hby own_d1_96) rfl rfl rfl ?_
    refine s_callI (pc' := 100) (W := 1) X51 hx hZ  rfl hown (hw _ (List.mem_of_getElem? (i := 14) rfl)) (hw _ (List.mem_of_getElem? (i := 15) rfl)) (hw _ (List.mem_of_getElem? (i := 13) rfl)) (hw _ (List.mem_of_getElem? (i := 16) rfl)) (by decide) e51 (own_si1_1 l Z a0 hw [] a ca ka34 cs (nar .char (own_c x (0 : Int32))) hp51 n0 Z59 O57 S_cs hcs F61 F62 A51 g_a f58 (own_le x (0 : Int32))) a (by rw [hml]; rfl) [(.ref ca)] [(.ref a)] rfl (lenOf own_pd6 rfl) rfl (Nat.le_of_eq rfl) (by decide) (by decide) (by decide) (by decide) rfl (hb hby own_d1_97) fun T63 v63 Lc63 X63 hQ63 => ?_
    obtain ⟨b, kb, rfl, Nq63, Kq63, szb, Ea, Fc, Fv, Vb⟩ := hQ63
    have hs64 := ((sfS sf53 sf0) : ∀ y_ ∈ ([a] : List Addr), Safe Z consts_1 _ _ y_)
    have sf65 := Safe.keep Kq63 hs64 HC56 sf54
    have sf66 := Safe.keep Kq63 hs64 HC56 sf53
    have HR67 := CHr.trans HR55 (CHr.keep Kq63 hs64 HC56)
    have HC68 := CHv.keep Kq63 hs64 HC56
    have O69 := O57.keep Kq63 (allS g_a all0)
    have N63 := Fr.app N43 Nq63
    have f70 := A51.keep Kq63
    have Z71 : n0 ≤ T63.heap.size := Nat.le_trans Z59 Kq63.1
    replace hk := Nat.le_trans hk Kq63.1
    have K72 : Keep h0 T63.heap [] := K60.trans Kq63 (allS (Or.inr sz_a) all0)
    show Ends p.tables e below (T63.setTop (mkF m 100 #[.val (.int x), .val (.int (1 : Int32)), .val (.ref ca)] [(.ref a)])) _
    obtain ⟨fs, hr, hrun, hended, hRW⟩ := X63.leaveW hS (show _ ≤ T63.heap.size from hk) (v := some (.ref a)) (fun h => by rw [Bd.returns] at h; cases h)
    have hfin : CHr Z consts_1 s.vm s.heap T63.vm T63.heap := by rw [hh]; exact CHr.trans HR67 (CHv.at X63 hZ (own_EW hw) HC68)
    refine ⟨_, _, retOut X63 hx Bd.returns rfl (Or.inr (Or.inr (Or.inr (Or.inr ⟨rfl, rfl, rfl⟩)))) (hb hby own_d1_100) hr, hrun, hended, _, _, rfl, ?_, hfin, own_rwm hRW (by decide) (by decide)⟩
    show own_text_Q Z x cs h0 n0 _ T63.heap _
    exact ⟨a, b, kb, rfl, N63, K72, sz_a, Ea, Fc, Fv, own_txN hn3 rfl Vb⟩
  · subst hq_
    have hk73 : ¬ ((2 : Int32) = (0 : Int32)) := by decide
    refine s_ifYes (pc' := 16) X1.here hx (hb hby own_d1_6) ((if0 _ _).trans (feq hk73).2) (by decide) (by decide) ?_
    refine s_iloadN (pc' := 17) X1.here hx (hb hby own_d1_16) rfl rfl ?_
    refine s_iconst (pc' := 18) X1.here hx (v := (1 : Int32)) (hb hby own_d1_17) rfl rfl ?_
    have hk74 : ¬ ((2 : Int32) = (1 : Int32)) := by decide
    refine s_icmpYes (pc' := 36) X1.here hx (hb hby own_d1_18) (feq hk74).2 (by decide) (by decide) ?_
    refine s_iloadN (pc' := 37) X1.here hx (hb hby own_d1_36) rfl rfl ?_
    refine s_iconst (pc' := 38) X1.here hx (v := (2 : Int32)) (hb hby own_d1_37) rfl rfl ?_
    have hk75 : (2 : Int32) = (2 : Int32) := rfl
    refine s_icmpNo (pc' := 41) X1.here hx (hb hby own_d1_38) (teq hk75).2 rfl ?_
    refine s_iconst (pc' := 42) X1.here hx (v := (2 : Int32)) (hb hby own_d1_41) rfl rfl ?_
    refine s_newP (pc' := 44) (cap := 2) X1 hx hZ (hw _ (List.mem_of_getElem? (i := 10) rfl)) eh1 (hb hby own_d1_42) (by decide) (by decide) (by decide) (by decide) (by decide) rfl fun T76 hp76 X76 e76 ka76 E76 ca gq76 A76 => ?_
    have g_ca : n0 ≤ ca := Nat.le_trans Z0 (Nat.le_of_eq gq76.symm)
    have sz_ca : h0.size ≤ ca := Nat.le_trans Kr0.1 (Nat.le_of_eq gq76.symm)
    have sf77 := Safe.ext E76 HC0 (Safe.new (Nat.le_of_eq gq76.symm))
    have HR78 := CHr.trans HR0 (CHr.ext E76 HC0)
    have HC79 := CHv.ext E76 HC0
    have O80 := O0.ext E76
    replace hk := Nat.le_trans hk E76.1
    have Z81 : n0 ≤ hp76.size := Nat.le_trans Z0 E76.1
    have K82 : Keep h0 hp76 [] := Kr0.ext E76
    have V83 : Arv Z hp76 ca ka76 .char (2 : Int32) [(.int (0 : Int32)), (.int (0 : Int32))] (.int (0 : Int32)) := (Arv.new A76 (by decide)).pad (pad_rep [] (.int (0 : Int32)) 2)
    refine s_dup (pc' := 45) X76.here hx (hb hby own_d1_44) rfl rfl ?_
    refine s_iconst (pc' := 46) X76.here hx (v := (0 : Int32)) (hb hby own_d1_45) rfl rfl ?_
    refine s_iloadN (pc' := 47) X76.here hx (hb hby own_d1_46) rfl rfl ?_
    refine s_iconst (pc' := 48) X76.here hx (v := (0 : Int32)) (hb hby own_d1_47) rfl rfl ?_
    refine s_callS (pc' := 51) (W := 3) X76 hx hZ  hown (hw _ (List.mem_of_getElem? (i := 32) rfl)) (hw _ (List.mem_of_getElem? (i := 33) rfl)) (hw _ (List.mem_of_getElem? (i := 5) rfl)) (hw _ (List.mem_of_getElem? (i := 34) rfl)) (by decide) e76 (own_chr l Z a0 hw [] x (0 : Int32) hp76 n0 Z81 ) (by rw [hml]; rfl) [(.int x), (.int (0 : Int32))] [(.int (0 : Int32)), (.ref ca), (.ref ca)] rfl (lenOf own_pd7 rfl) rfl (Nat.le_of_eq rfl) (by decide) (by decide) (by decide) (by decide) rfl (hb hby own_d1_48) fun T84 v84 Lc84 X84 hQ84 => ?_
    obtain ⟨rfl, Nq84, eh84⟩ := hQ84
    have N84 := Fr.app N1 Nq84
    show Ends p.tables e below (T84.setTop (mkF m 51 #[.val (.int x), .val (.int (2 : Int32)), .unset] [(.int (own_c x (0 : Int32))), (.int (0 : Int32)), (.ref ca), (.ref ca)])) _
    refine s_putC (pc' := 52) X84 hx hZ eh84 V83 ⟨by decide, by decide⟩ 0 rfl (Nat.le_of_ble_eq_true rfl) (hb hby own_d1_51) rfl fun T85 hp85 X85 e85 W85 Vw85 => ?_
    have V86 : Arv Z hp85 ca ka76 .char (2 : Int32) [(.int (nar .char (own_c x (0 : Int32)))), (.int (0 : Int32))] (.int (0 : Int32)) := Vw85
    have N85 := Fr.snoc X85 N84 g_ca
    have sf87 := Safe.wr W85 sf77 HC79 sf77
    have HR88 := CHr.trans HR78 (CHr.wr W85 sf77 HC79)
    have HC89 := CHv.wr W85 sf77 HC79
    have O90 := O80.wr W85 g_ca
    replace hk := Nat.le_trans hk (Keep.of_wr W85).1
    have Z91 : n0 ≤ hp85.size := Nat.le_trans Z81 (Keep.of_wr W85).1
    have K92 : Keep h0 hp85 [] := K82.wr W85 (Or.inr sz_ca)
    refine s_dup (pc' := 53) X85.here hx (hb hby own_d1_52) rfl rfl ?_
    refine s_iconst (pc' := 54) X85.here hx (v := (1 : Int32)) (hb hby own_d1_53) rfl rfl ?_
    refine s_iloadN (pc' := 55) X85.here hx (hb hby own_d1_54) rfl rfl ?_
    refine s_iconst (pc' := 56) X85.here hx (v := (1 : Int32)) (hb hby own_d1_55) rfl rfl ?_
    refine s_callS (pc' := 59) (W := 3) X85 hx hZ  hown (hw _ (List.mem_of_getElem? (i := 32) rfl)) (hw _ (List.mem_of_getElem? (i := 33) rfl)) (hw _ (List.mem_of_getElem? (i := 5) rfl)) (hw _ (List.mem_of_getElem? (i := 34) rfl)) (by decide) e85 (own_chr l Z a0 hw [] x (1 : Int32) hp85 n0 Z91 ) (by rw [hml]; rfl) [(.int x), (.int (1 : Int32))] [(.int (1 : Int32)), (.ref ca), (.ref ca)] rfl (lenOf own_pd7 rfl) rfl (Nat.le_of_eq rfl) (by decide) (by decide) (by decide) (by decide) rfl (hb hby own_d1_56) fun T93 v93 Lc93 X93 hQ93 => ?_
    obtain ⟨rfl, Nq93, eh93⟩ := hQ93
    have N93 := Fr.app N85 Nq93
    show Ends p.tables e below (T93.setTop (mkF m 59 #[.val (.int x), .val (.int (2 : Int32)), .unset] [(.int (own_c x (1 : Int32))), (.int (1 : Int32)), (.ref ca), (.ref ca)])) _
    refine s_putC (pc' := 60) X93 hx hZ eh93 V86 ⟨by decide, by decide⟩ 1 rfl (Nat.le_of_ble_eq_true rfl) (hb hby own_d1_59) rfl fun T94 hp94 X94 e94 W94 Vw94 => ?_
    have V95 : Arv Z hp94 ca ka76 .char (2 : Int32) [(.int (nar .char (own_c x (0 : Int32)))), (.int (nar .char (own_c x (1 : Int32))))] (.int (0 : Int32)) := Vw94
    have N94 := Fr.snoc X94 N93 g_ca
    have sf96 := Safe.wr W94 sf87 HC89 sf87
    have HR97 := CHr.trans HR88 (CHr.wr W94 sf87 HC89)
    have HC98 := CHv.wr W94 sf87 HC89
    have O99 := O90.wr W94 g_ca
    replace hk := Nat.le_trans hk (Keep.of_wr W94).1
    have Z100 : n0 ≤ hp94.size := Nat.le_trans Z91 (Keep.of_wr W94).1
    have K101 : Keep h0 hp94 [] := K92.wr W94 (Or.inr sz_ca)
    refine s_astoreN (pc' := 61) X94.here hx (l' := #[.val (.int x), .val (.int (2 : Int32)), .val (.ref ca)]) (hb hby own_d1_60) rfl rfl rfl ?_
    refine s_goto (pc' := 92) X94.here hx (hb hby own_d1_61) (by decide) (by decide) ?_
    refine s_newO (pc' := 95) X94 hx hZ hown (hw _ (List.mem_of_getElem? (i := 11) rfl)) (hw _ (List.mem_of_getElem? (i := 12) rfl)) (hw _ (List.mem_of_getElem? (i := 13) rfl)) e94 (hb hby own_d1_92) (by decide) (by decide) rfl fun T102 hp102 X102 e102 E102 a gq102 A102 D102 => ?_
    have g_a : n0 ≤ a := Nat.le_trans Z100 (Nat.le_of_eq gq102.symm)
    have sz_a : h0.size ≤ a := Nat.le_trans K101.1 (Nat.le_of_eq gq102.symm)
    have ne103 : ca ≠ a := Nat.ne_of_lt (Nat.lt_of_lt_of_le V95.lt (Nat.le_of_eq gq102.symm))
    have sf104 := Safe.ext E102 HC98 (Safe.new (Nat.le_of_eq gq102.symm))
    have sf105 := Safe.ext E102 HC98 sf96
    have HR106 := CHr.trans HR97 (CHr.ext E102 HC98)
    have HC107 := CHv.ext E102 HC98
    have O108 := O99.ext E102
    have f109 := V95.ext E102
    replace hk := Nat.le_trans hk E102.1
    have Z110 : n0 ≤ hp102.size := Nat.le_trans Z100 E102.1
    have K111 : Keep h0 hp102 [] := K101.ext E102
    have F112 : Fld Z hp102 a "java/lang/String" "value" "[B" .null := D102 (Or.inr (hw _ (List.mem_of_getElem? (i := 26) rfl))) (ty := (.array .byte)) (by decide)
    have F113 : Fld Z hp102 a "java/lang/String" "coder" "B" (.int (0 : Int32)) := D102 (Or.inr (hw _ (List.mem_of_getElem? (i := 27) rfl))) (ty := .byte) (by decide)
    refine s_dup (pc' := 96) X102.here hx (hb hby own_d1_95) rfl rfl ?_
    refine s_aloadN (pc' := 97) X102.here hx (hb hby own_d1_96) rfl rfl rfl ?_
    refine s_callI (pc' := 100) (W := 1) X102 hx hZ  rfl hown (hw _ (List.mem_of_getElem? (i := 14) rfl)) (hw _ (List.mem_of_getElem? (i := 15) rfl)) (hw _ (List.mem_of_getElem? (i := 13) rfl)) (hw _ (List.mem_of_getElem? (i := 16) rfl)) (by decide) e102 (own_si1_2 l Z a0 hw [] a ca ka76 cs (nar .char (own_c x (0 : Int32))) (nar .char (own_c x (1 : Int32))) hp102 n0 Z110 O108 S_cs hcs F112 F113 A102 g_a f109 (own_le x (0 : Int32)) (own_le x (1 : Int32))) a (by rw [hml]; rfl) [(.ref ca)] [(.ref a)] rfl (lenOf own_pd6 rfl) rfl (Nat.le_of_eq rfl) (by decide) (by decide) (by decide) (by decide) rfl (hb hby own_d1_97) fun T114 v114 Lc114 X114 hQ114 => ?_
    obtain ⟨b, kb, rfl, Nq114, Kq114, szb, Ea, Fc, Fv, Vb⟩ := hQ114
    have hs115 := ((sfS sf104 sf0) : ∀ y_ ∈ ([a] : List Addr), Safe Z consts_1 _ _ y_)
    have sf116 := Safe.keep Kq114 hs115 HC107 sf105
    have sf117 := Safe.keep Kq114 hs115 HC107 sf104
    have HR118 := CHr.trans HR106 (CHr.keep Kq114 hs115 HC107)
    have HC119 := CHv.keep Kq114 hs115 HC107
    have O120 := O108.keep Kq114 (allS g_a all0)
    have N114 := Fr.app N94 Nq114
    have f121 := A102.keep Kq114
    have Z122 : n0 ≤ T114.heap.size := Nat.le_trans Z110 Kq114.1
    replace hk := Nat.le_trans hk Kq114.1
    have K123 : Keep h0 T114.heap [] := K111.trans Kq114 (allS (Or.inr sz_a) all0)
    show Ends p.tables e below (T114.setTop (mkF m 100 #[.val (.int x), .val (.int (2 : Int32)), .val (.ref ca)] [(.ref a)])) _
    obtain ⟨fs, hr, hrun, hended, hRW⟩ := X114.leaveW hS (show _ ≤ T114.heap.size from hk) (v := some (.ref a)) (fun h => by rw [Bd.returns] at h; cases h)
    have hfin : CHr Z consts_1 s.vm s.heap T114.vm T114.heap := by rw [hh]; exact CHr.trans HR118 (CHv.at X114 hZ (own_EW hw) HC119)
    refine ⟨_, _, retOut X114 hx Bd.returns rfl (Or.inr (Or.inr (Or.inr (Or.inr ⟨rfl, rfl, rfl⟩)))) (hb hby own_d1_100) hr, hrun, hended, _, _, rfl, ?_, hfin, own_rwm hRW (by decide) (by decide)⟩
    show own_text_Q Z x cs h0 n0 _ T114.heap _
    exact ⟨a, b, kb, rfl, N114, K123, sz_a, Ea, Fc, Fv, own_txN hn3 rfl Vb⟩
  · subst hq_
    have hk124 : ¬ ((3 : Int32) = (0 : Int32)) := by decide
    refine s_ifYes (pc' := 16) X1.here hx (hb hby own_d1_6) ((if0 _ _).trans (feq hk124).2) (by decide) (by decide) ?_
    refine s_iloadN (pc' := 17) X1.here hx (hb hby own_d1_16) rfl rfl ?_
    refine s_iconst (pc' := 18) X1.here hx (v := (1 : Int32)) (hb hby own_d1_17) rfl rfl ?_
    have hk125 : ¬ ((3 : Int32) = (1 : Int32)) := by decide
    refine s_icmpYes (pc' := 36) X1.here hx (hb hby own_d1_18) (feq hk125).2 (by decide) (by decide) ?_
    refine s_iloadN (pc' := 37) X1.here hx (hb hby own_d1_36) rfl rfl ?_
    refine s_iconst (pc' := 38) X1.here hx (v := (2 : Int32)) (hb hby own_d1_37) rfl rfl ?_
    have hk126 : ¬ ((3 : Int32) = (2 : Int32)) := by decide
    refine s_icmpYes (pc' := 64) X1.here hx (hb hby own_d1_38) (feq hk126).2 (by decide) (by decide) ?_
    refine s_iconst (pc' := 65) X1.here hx (v := (3 : Int32)) (hb hby own_d1_64) rfl rfl ?_
    refine s_newP (pc' := 67) (cap := 3) X1 hx hZ (hw _ (List.mem_of_getElem? (i := 10) rfl)) eh1 (hb hby own_d1_65) (by decide) (by decide) (by decide) (by decide) (by decide) rfl fun T127 hp127 X127 e127 ka127 E127 ca gq127 A127 => ?_
    have g_ca : n0 ≤ ca := Nat.le_trans Z0 (Nat.le_of_eq gq127.symm)
    have sz_ca : h0.size ≤ ca := Nat.le_trans Kr0.1 (Nat.le_of_eq gq127.symm)
    have sf128 := Safe.ext E127 HC0 (Safe.new (Nat.le_of_eq gq127.symm))
    have HR129 := CHr.trans HR0 (CHr.ext E127 HC0)
    have HC130 := CHv.ext E127 HC0
    have O131 := O0.ext E127
    replace hk := Nat.le_trans hk E127.1
    have Z132 : n0 ≤ hp127.size := Nat.le_trans Z0 E127.1
    have K133 : Keep h0 hp127 [] := Kr0.ext E127
    have V134 : Arv Z hp127 ca ka127 .char (3 : Int32) [(.int (0 : Int32)), (.int (0 : Int32)), (.int (0 : Int32))] (.int (0 : Int32)) := (Arv.new A127 (by decide)).pad (pad_rep [] (.int (0 : Int32)) 3)
    refine s_dup (pc' := 68) X127.here hx (hb hby own_d1_67) rfl rfl ?_
    refine s_iconst (pc' := 69) X127.here hx (v := (0 : Int32)) (hb hby own_d1_68) rfl rfl ?_
    refine s_iloadN (pc' := 70) X127.here hx (hb hby own_d1_69) rfl rfl ?_
    refine s_iconst (pc' := 71) X127.here hx (v := (0 : Int32)) (hb hby own_d1_70) rfl rfl ?_
    refine s_callS (pc' := 74) (W := 3) X127 hx hZ  hown (hw _ (List.mem_of_getElem? (i := 32) rfl)) (hw _ (List.mem_of_getElem? (i := 33) rfl)) (hw _ (List.mem_of_getElem? (i := 5) rfl)) (hw _ (List.mem_of_getElem? (i := 34) rfl)) (by decide) e127 (own_chr l Z a0 hw [] x (0 : Int32) hp127 n0 Z132 ) (by rw [hml]; rfl) [(.int x), (.int (0 : Int32))] [(.int (0 : Int32)), (.ref ca), (.ref ca)] rfl (lenOf own_pd7 rfl) rfl (Nat.le_of_eq rfl) (by decide) (by decide) (by decide) (by decide) rfl (hb hby own_d1_71) fun T135 v135 Lc135 X135 hQ135 => ?_
    obtain ⟨rfl, Nq135, eh135⟩ := hQ135
    have N135 := Fr.app N1 Nq135
    show Ends p.tables e below (T135.setTop (mkF m 74 #[.val (.int x), .val (.int (3 : Int32)), .unset] [(.int (own_c x (0 : Int32))), (.int (0 : Int32)), (.ref ca), (.ref ca)])) _
    refine s_putC (pc' := 75) X135 hx hZ eh135 V134 ⟨by decide, by decide⟩ 0 rfl (Nat.le_of_ble_eq_true rfl) (hb hby own_d1_74) rfl fun T136 hp136 X136 e136 W136 Vw136 => ?_
    have V137 : Arv Z hp136 ca ka127 .char (3 : Int32) [(.int (nar .char (own_c x (0 : Int32)))), (.int (0 : Int32)), (.int (0 : Int32))] (.int (0 : Int32)) := Vw136
    have N136 := Fr.snoc X136 N135 g_ca
    have sf138 := Safe.wr W136 sf128 HC130 sf128
    have HR139 := CHr.trans HR129 (CHr.wr W136 sf128 HC130)
    have HC140 := CHv.wr W136 sf128 HC130
    have O141 := O131.wr W136 g_ca
    replace hk := Nat.le_trans hk (Keep.of_wr W136).1
    have Z142 : n0 ≤ hp136.size := Nat.le_trans Z132 (Keep.of_wr W136).1
    have K143 : Keep h0 hp136 [] := K133.wr W136 (Or.inr sz_ca)
    refine s_dup (pc' := 76) X136.here hx (hb hby own_d1_75) rfl rfl ?_
    refine s_iconst (pc' := 77) X136.here hx (v := (1 : Int32)) (hb hby own_d1_76) rfl rfl ?_
    refine s_iloadN (pc' := 78) X136.here hx (hb hby own_d1_77) rfl rfl ?_
    refine s_iconst (pc' := 79) X136.here hx (v := (1 : Int32)) (hb hby own_d1_78) rfl rfl ?_
    refine s_callS (pc' := 82) (W := 3) X136 hx hZ  hown (hw _ (List.mem_of_getElem? (i := 32) rfl)) (hw _ (List.mem_of_getElem? (i := 33) rfl)) (hw _ (List.mem_of_getElem? (i := 5) rfl)) (hw _ (List.mem_of_getElem? (i := 34) rfl)) (by decide) e136 (own_chr l Z a0 hw [] x (1 : Int32) hp136 n0 Z142 ) (by rw [hml]; rfl) [(.int x), (.int (1 : Int32))] [(.int (1 : Int32)), (.ref ca), (.ref ca)] rfl (lenOf own_pd7 rfl) rfl (Nat.le_of_eq rfl) (by decide) (by decide) (by decide) (by decide) rfl (hb hby own_d1_79) fun T144 v144 Lc144 X144 hQ144 => ?_
    obtain ⟨rfl, Nq144, eh144⟩ := hQ144
    have N144 := Fr.app N136 Nq144
    show Ends p.tables e below (T144.setTop (mkF m 82 #[.val (.int x), .val (.int (3 : Int32)), .unset] [(.int (own_c x (1 : Int32))), (.int (1 : Int32)), (.ref ca), (.ref ca)])) _
    refine s_putC (pc' := 83) X144 hx hZ eh144 V137 ⟨by decide, by decide⟩ 1 rfl (Nat.le_of_ble_eq_true rfl) (hb hby own_d1_82) rfl fun T145 hp145 X145 e145 W145 Vw145 => ?_
    have V146 : Arv Z hp145 ca ka127 .char (3 : Int32) [(.int (nar .char (own_c x (0 : Int32)))), (.int (nar .char (own_c x (1 : Int32)))), (.int (0 : Int32))] (.int (0 : Int32)) := Vw145
    have N145 := Fr.snoc X145 N144 g_ca
    have sf147 := Safe.wr W145 sf138 HC140 sf138
    have HR148 := CHr.trans HR139 (CHr.wr W145 sf138 HC140)
    have HC149 := CHv.wr W145 sf138 HC140
    have O150 := O141.wr W145 g_ca
    replace hk := Nat.le_trans hk (Keep.of_wr W145).1
    have Z151 : n0 ≤ hp145.size := Nat.le_trans Z142 (Keep.of_wr W145).1
    have K152 : Keep h0 hp145 [] := K143.wr W145 (Or.inr sz_ca)
    refine s_dup (pc' := 84) X145.here hx (hb hby own_d1_83) rfl rfl ?_
    refine s_iconst (pc' := 85) X145.here hx (v := (2 : Int32)) (hb hby own_d1_84) rfl rfl ?_
    refine s_iloadN (pc' := 86) X145.here hx (hb hby own_d1_85) rfl rfl ?_
    refine s_iconst (pc' := 87) X145.here hx (v := (2 : Int32)) (hb hby own_d1_86) rfl rfl ?_
    refine s_callS (pc' := 90) (W := 3) X145 hx hZ  hown (hw _ (List.mem_of_getElem? (i := 32) rfl)) (hw _ (List.mem_of_getElem? (i := 33) rfl)) (hw _ (List.mem_of_getElem? (i := 5) rfl)) (hw _ (List.mem_of_getElem? (i := 34) rfl)) (by decide) e145 (own_chr l Z a0 hw [] x (2 : Int32) hp145 n0 Z151 ) (by rw [hml]; rfl) [(.int x), (.int (2 : Int32))] [(.int (2 : Int32)), (.ref ca), (.ref ca)] rfl (lenOf own_pd7 rfl) rfl (Nat.le_of_eq rfl) (by decide) (by decide) (by decide) (by decide) rfl (hb hby own_d1_87) fun T153 v153 Lc153 X153 hQ153 => ?_
    obtain ⟨rfl, Nq153, eh153⟩ := hQ153
    have N153 := Fr.app N145 Nq153
    show Ends p.tables e below (T153.setTop (mkF m 90 #[.val (.int x), .val (.int (3 : Int32)), .unset] [(.int (own_c x (2 : Int32))), (.int (2 : Int32)), (.ref ca), (.ref ca)])) _
    refine s_putC (pc' := 91) X153 hx hZ eh153 V146 ⟨by decide, by decide⟩ 2 rfl (Nat.le_of_ble_eq_true rfl) (hb hby own_d1_90) rfl fun T154 hp154 X154 e154 W154 Vw154 => ?_
    have V155 : Arv Z hp154 ca ka127 .char (3 : Int32) [(.int (nar .char (own_c x (0 : Int32)))), (.int (nar .char (own_c x (1 : Int32)))), (.int (nar .char (own_c x (2 : Int32))))] (.int (0 : Int32)) := Vw154
    have N154 := Fr.snoc X154 N153 g_ca
    have sf156 := Safe.wr W154 sf147 HC149 sf147
    have HR157 := CHr.trans HR148 (CHr.wr W154 sf147 HC149)
    have HC158 := CHv.wr W154 sf147 HC149
    have O159 := O150.wr W154 g_ca
    replace hk := Nat.le_trans hk (Keep.of_wr W154).1
    have Z160 : n0 ≤ hp154.size := Nat.le_trans Z151 (Keep.of_wr W154).1
    have K161 : Keep h0 hp154 [] := K152.wr W154 (Or.inr sz_ca)
    refine s_astoreN (pc' := 92) X154.here hx (l' := #[.val (.int x), .val (.int (3 : Int32)), .val (.ref ca)]) (hb hby own_d1_91) rfl rfl rfl ?_
    refine s_newO (pc' := 95) X154 hx hZ hown (hw _ (List.mem_of_getElem? (i := 11) rfl)) (hw _ (List.mem_of_getElem? (i := 12) rfl)) (hw _ (List.mem_of_getElem? (i := 13) rfl)) e154 (hb hby own_d1_92) (by decide) (by decide) rfl fun T162 hp162 X162 e162 E162 a gq162 A162 D162 => ?_
    have g_a : n0 ≤ a := Nat.le_trans Z160 (Nat.le_of_eq gq162.symm)
    have sz_a : h0.size ≤ a := Nat.le_trans K161.1 (Nat.le_of_eq gq162.symm)
    have ne163 : ca ≠ a := Nat.ne_of_lt (Nat.lt_of_lt_of_le V155.lt (Nat.le_of_eq gq162.symm))
    have sf164 := Safe.ext E162 HC158 (Safe.new (Nat.le_of_eq gq162.symm))
    have sf165 := Safe.ext E162 HC158 sf156
    have HR166 := CHr.trans HR157 (CHr.ext E162 HC158)
    have HC167 := CHv.ext E162 HC158
    have O168 := O159.ext E162
    have f169 := V155.ext E162
    replace hk := Nat.le_trans hk E162.1
    have Z170 : n0 ≤ hp162.size := Nat.le_trans Z160 E162.1
    have K171 : Keep h0 hp162 [] := K161.ext E162
    have F172 : Fld Z hp162 a "java/lang/String" "value" "[B" .null := D162 (Or.inr (hw _ (List.mem_of_getElem? (i := 26) rfl))) (ty := (.array .byte)) (by decide)
    have F173 : Fld Z hp162 a "java/lang/String" "coder" "B" (.int (0 : Int32)) := D162 (Or.inr (hw _ (List.mem_of_getElem? (i := 27) rfl))) (ty := .byte) (by decide)
    refine s_dup (pc' := 96) X162.here hx (hb hby own_d1_95) rfl rfl ?_
    refine s_aloadN (pc' := 97) X162.here hx (hb hby own_d1_96) rfl rfl rfl ?_
    refine s_callI (pc' := 100) (W := 1) X162 hx hZ  rfl hown (hw _ (List.mem_of_getElem? (i := 14) rfl)) (hw _ (List.mem_of_getElem? (i := 15) rfl)) (hw _ (List.mem_of_getElem? (i := 13) rfl)) (hw _ (List.mem_of_getElem? (i := 16) rfl)) (by decide) e162 (own_si1_3 l Z a0 hw [] a ca ka127 cs (nar .char (own_c x (0 : Int32))) (nar .char (own_c x (1 : Int32))) (nar .char (own_c x (2 : Int32))) hp162 n0 Z170 O168 S_cs hcs F172 F173 A162 g_a f169 (own_le x (0 : Int32)) (own_le x (1 : Int32)) (own_le x (2 : Int32))) a (by rw [hml]; rfl) [(.ref ca)] [(.ref a)] rfl (lenOf own_pd6 rfl) rfl (Nat.le_of_eq rfl) (by decide) (by decide) (by decide) (by decide) rfl (hb hby own_d1_97) fun T174 v174 Lc174 X174 hQ174 => ?_
    obtain ⟨b, kb, rfl, Nq174, Kq174, szb, Ea, Fc, Fv, Vb⟩ := hQ174
    have hs175 := ((sfS sf164 sf0) : ∀ y_ ∈ ([a] : List Addr), Safe Z consts_1 _ _ y_)
    have sf176 := Safe.keep Kq174 hs175 HC167 sf165
    have sf177 := Safe.keep Kq174 hs175 HC167 sf164
    have HR178 := CHr.trans HR166 (CHr.keep Kq174 hs175 HC167)
    have HC179 := CHv.keep Kq174 hs175 HC167
    have O180 := O168.keep Kq174 (allS g_a all0)
    have N174 := Fr.app N154 Nq174
    have f181 := A162.keep Kq174
    have Z182 : n0 ≤ T174.heap.size := Nat.le_trans Z170 Kq174.1
    replace hk := Nat.le_trans hk Kq174.1
    have K183 : Keep h0 T174.heap [] := K171.trans Kq174 (allS (Or.inr sz_a) all0)
    show Ends p.tables e below (T174.setTop (mkF m 100 #[.val (.int x), .val (.int (3 : Int32)), .val (.ref ca)] [(.ref a)])) _
    obtain ⟨fs, hr, hrun, hended, hRW⟩ := X174.leaveW hS (show _ ≤ T174.heap.size from hk) (v := some (.ref a)) (fun h => by rw [Bd.returns] at h; cases h)
    have hfin : CHr Z consts_1 s.vm s.heap T174.vm T174.heap := by rw [hh]; exact CHr.trans HR178 (CHv.at X174 hZ (own_EW hw) HC179)
    refine ⟨_, _, retOut X174 hx Bd.returns rfl (Or.inr (Or.inr (Or.inr (Or.inr ⟨rfl, rfl, rfl⟩)))) (hb hby own_d1_100) hr, hrun, hended, _, _, rfl, ?_, hfin, own_rwm hRW (by decide) (by decide)⟩
    show own_text_Q Z x cs h0 n0 _ T174.heap _
    exact ⟨a, b, kb, rfl, N174, K183, sz_a, Ea, Fc, Fv, own_txN hn3 rfl Vb⟩
theorem own_d11_0 : decode jdk_30_method_1_code 0 = .ok (.aload_n 0, 1) := by decide +kernel
theorem own_d11_1 : decode jdk_30_method_1_code 1 = .ok (.invokespecial 1, 3) := by decide +kernel
theorem own_d11_4 : decode jdk_30_method_1_code 4 = .ok (.return_, 1) := by decide +kernel
theorem own_pn4 : plainName "java/lang/Record" = true := by first | (simp [plainName, overriddenIn]; done) | decide +kernel
theorem own_rec_ef (m : MethodId) (a : Addr) : entryFrame m #[(.ref a)] 1 = mkF m 0 #[.val (.ref a)] [] := by first | (simp [entryFrame, mkF, argsToLocals, Value.category]; done) | rfl
def own_rec_Q (Z : State) (a : Addr) (h0 : Heap) (n0 : Nat) (v : Option Value) (h : Heap) (L : List Loc) : Prop := v = none ∧ Fr n0 L ∧ h = h0
set_option maxRecDepth 65536 in
set_option maxHeartbeats 40000000 in
theorem own_rec (l : Launch) (Z : State) (a0 : Array Value) (hw : ∀ d ∈ tables_1, d.before a0 Z = true) (ws : List Jvm.Cond) (a : Addr) (h0 : Heap) (n0 : Nat) (Z0 : n0 ≤ h0.size) :
    MetFree l (⟨"java/lang/Record", "<init>", "()V"⟩ : MethodName) (head1 (Jvm.Cond.code (⟨"java/lang/Record", "<init>", "()V"⟩ : MethodName) jdk_30_method_1_code 1 none :: ws) ({ frames := 1, cells := 0, slots := 0, locals := 12 } : Room)) (fun as_ U => as_ = #[(.ref a)] ∧ Z.Warmed39 U.vm ∧ U.heap = h0) (fun _ _ _ _ _ => True) (fun _ U_ o_ V_ => ∃ v_ L_, o_ = .returned v_ ∧ own_rec_Q Z a h0 n0 v_ V_.heap L_ ∧ FrameEnd U_ o_ V_ L_ ({ frames := 1, cells := 0, slots := 0, locals := 12 } : Room).cells ({ frames := 1, cells := 0, slots := 0, locals := 12 } : Room).slots) := by
  refine MetFree.of_bodySF (plainFor_of_name own_pn4) hisR ?_
  intro p e s m args below meth c s₁ Bd hml0 hP hK
  obtain ⟨rfl, hZ, hh⟩ := hP
  have hx := Bd.exec
  have hby := Bd.bytes
  have hml : c.maxLocals = 1 := hml0
  have hown : s.vm.findClass "java/lang/Record" = some m.cls := findClass_of_methodNamed Bd.named
  have hnm := (name_of_methodNamed Bd.named Bd.method).1
  have X0 : Stand p l e ({ frames := 1, cells := 0, slots := 0, locals := 12 } : Room) s m #[(.ref a)] below meth c s₁ [] 0 0 := Stand.of_body Bd
  have e0 : s₁.heap = h0 := by rw [← hh, Bd.state]; rfl
  have N0 := Fr.nil n0
  refine own_begin (own_rec_ef m a) ?_
  show Ends p.tables e below (s₁.setTop (mkF m 0 #[.val (.ref a)] [])) _
  refine s_aloadN (pc' := 1) X0.here hx (hb hby own_d11_0) rfl rfl rfl ?_
  refine s_initO (pc' := 4) (W := 0) X0 hx hZ hown (hw _ (List.mem_of_getElem? (i := 54) rfl)) (hw _ (List.mem_of_getElem? (i := 22) rfl)) (hw _ (List.mem_of_getElem? (i := 23) rfl)) e0 (by rw [hml]; rfl) (hb hby own_d11_1) (by decide) (Nat.le_of_eq rfl) (by decide) rfl fun T1 X1 e1 => ?_
  obtain ⟨fs, hr, hrun, hended, hW, hsame⟩ := X1.leave (v := none) (fun _ => rfl)
  refine ⟨_, _, X1.returnOut hx Bd.returns (hb hby own_d11_4) hr, hrun, hended, _, _, rfl, ?_, ⟨_, rfl⟩, hW, hsame.mono (by decide) (by decide)⟩
  show own_rec_Q Z a h0 n0 _ T1.heap _
  rw [e1]
  exact ⟨rfl, N0, rfl⟩
theorem own_d10_0 : decode prog_1_method_1_code 0 = .ok (.aload_n 0, 1) := by decide +kernel
theorem own_d10_1 : decode prog_1_method_1_code 1 = .ok (.invokespecial 1, 3) := by decide +kernel
theorem own_pd8 : parseMethodDescriptor "()V" = some ⟨[], none⟩ := by decide +kernel
theorem own_d10_4 : decode prog_1_method_1_code 4 = .ok (.aload_n 0, 1) := by decide +kernel
theorem own_d10_5 : decode prog_1_method_1_code 5 = .ok (.aload_n 1, 1) := by decide +kernel
theorem own_d10_6 : decode prog_1_method_1_code 6 = .ok (.putfield 7, 3) := by decide +kernel
theorem own_d10_9 : decode prog_1_method_1_code 9 = .ok (.aload_n 0, 1) := by decide +kernel
theorem own_d10_10 : decode prog_1_method_1_code 10 = .ok (.aload_n 2, 1) := by decide +kernel
theorem own_d10_11 : decode prog_1_method_1_code 11 = .ok (.putfield 13, 3) := by decide +kernel
theorem own_d10_14 : decode prog_1_method_1_code 14 = .ok (.return_, 1) := by decide +kernel
theorem own_pn5 : plainName "com/example/vestbook/vestbook/AccountId" = true := by first | (simp [plainName, overriddenIn]; done) | decide +kernel
theorem own_ai_ef (m : MethodId) (a : Addr) (p1 : Addr) (p2 : Addr) : entryFrame m #[(.ref a), (.ref p1), (.ref p2)] 3 = mkF m 0 #[.val (.ref a), .val (.ref p1), .val (.ref p2)] [] := by first | (simp [entryFrame, mkF, argsToLocals, Value.category]; done) | rfl
def own_ai_Q (Z : State) (a : Addr) (p1 : Addr) (p2 : Addr) (h0 : Heap) (n0 : Nat) (v : Option Value) (h : Heap) (L : List Loc) : Prop := v = none ∧ Fr n0 L ∧ Keep h0 h [a] ∧ Exa Z h a "com/example/vestbook/vestbook/AccountId" ∧ Fld Z h a "com/example/vestbook/vestbook/AccountId" "participant" "Ljava/lang/String;" (.ref p1) ∧ Fld Z h a "com/example/vestbook/vestbook/AccountId" "account" "Ljava/lang/String;" (.ref p2)
set_option maxRecDepth 65536 in
set_option maxHeartbeats 40000000 in
theorem own_ai (l : Launch) (Z : State) (a0 : Array Value) (hw : ∀ d ∈ tables_1, d.before a0 Z = true) (ws : List Jvm.Cond) (a : Addr) (p1 : Addr) (p2 : Addr) (h0 : Heap) (n0 : Nat) (Z0 : n0 ≤ h0.size) (F_p : Fld Z h0 a "com/example/vestbook/vestbook/AccountId" "participant" "Ljava/lang/String;" .null) (F_q : Fld Z h0 a "com/example/vestbook/vestbook/AccountId" "account" "Ljava/lang/String;" .null) (E_a : Exa Z h0 a "com/example/vestbook/vestbook/AccountId") (g_a : n0 ≤ a) :
    MetFree l (⟨"com/example/vestbook/vestbook/AccountId", "<init>", "(Ljava/lang/String;Ljava/lang/String;)V"⟩ : MethodName) (head1 (Jvm.Cond.code (⟨"com/example/vestbook/vestbook/AccountId", "<init>", "(Ljava/lang/String;Ljava/lang/String;)V"⟩ : MethodName) prog_1_method_1_code 3 none :: ws) ({ frames := 2, cells := 0, slots := 0, locals := 24 } : Room)) (fun as_ U => as_ = #[(.ref a), (.ref p1), (.ref p2)] ∧ Z.Warmed39 U.vm ∧ U.heap = h0) (fun _ _ _ _ _ => True) (fun _ U_ o_ V_ => ∃ v_ L_, o_ = .returned v_ ∧ own_ai_Q Z a p1 p2 h0 n0 v_ V_.heap L_ ∧ FrameEnd U_ o_ V_ L_ ({ frames := 2, cells := 0, slots := 0, locals := 24 } : Room).cells ({ frames := 2, cells := 0, slots := 0, locals := 24 } : Room).slots) := by
  refine MetFree.of_bodySF (plainFor_of_name own_pn5) hisR ?_
  intro p e s m args below meth c s₁ Bd hml0 hP hK
  obtain ⟨rfl, hZ, hh⟩ := hP
  have hx := Bd.exec
  have hby := Bd.bytes
  have hml : c.maxLocals = 3 := hml0
  have hown : s.vm.findClass "com/example/vestbook/vestbook/AccountId" = some m.cls := findClass_of_methodNamed Bd.named
  have hnm := (name_of_methodNamed Bd.named Bd.method).1
  have X0 : Stand p l e ({ frames := 2, cells := 0, slots := 0, locals := 24 } : Room) s m #[(.ref a), (.ref p1), (.ref p2)] below meth c s₁ [] 0 0 := Stand.of_body Bd
  have e0 : s₁.heap = h0 := by rw [← hh, Bd.state]; rfl
  have N0 := Fr.nil n0
  refine own_begin (own_ai_ef m a p1 p2) ?_
  show Ends p.tables e below (s₁.setTop (mkF m 0 #[.val (.ref a), .val (.ref p1), .val (.ref p2)] [])) _
  have Kr0 : Keep h0 h0 [a] := Keep.refl h0 _
  refine s_aloadN (pc' := 1) X0.here hx (hb hby own_d10_0) rfl rfl rfl ?_
  refine s_callI (pc' := 4) (W := 0) X0 hx hZ  rfl hown (hw _ (List.mem_of_getElem? (i := 49) rfl)) (hw _ (List.mem_of_getElem? (i := 50) rfl)) (hw _ (List.mem_of_getElem? (i := 52) rfl)) (hw _ (List.mem_of_getElem? (i := 53) rfl)) (by decide) e0 (own_rec l Z a0 hw [] a h0 n0 Z0 ) a (by rw [hml]; rfl) [] [] rfl (lenOf own_pd8 rfl) rfl (Nat.le_of_eq rfl) (by decide) (by decide) (by decide) (by decide) rfl (hb hby own_d10_1) fun T1 v1 Lc1 X1 hQ1 => ?_
  obtain ⟨rfl, Nq1, eh1⟩ := hQ1
  have N1 := Fr.app N0 Nq1
  show Ends p.tables e below (T1.setTop (mkF m 4 #[.val (.ref a), .val (.ref p1), .val (.ref p2)] [])) _
  refine s_aloadN (pc' := 5) X1.here hx (hb hby own_d10_4) rfl rfl rfl ?_
  refine s_aloadN (pc' := 6) X1.here hx (hb hby own_d10_5) rfl rfl rfl ?_
  refine s_putF (pc' := 9) (ty := (.object "java/lang/String")) X1 hx hZ hown (host := "") (Or.inl (hw _ (List.mem_of_getElem? (i := 55) rfl))) Via.refl eh1 F_p E_a (Or.inr ⟨(hw _ (List.mem_of_getElem? (i := 56) rfl)), rfl, hnm⟩) (hw _ (List.mem_of_getElem? (i := 1) rfl)) (by decide) rfl rfl (hb hby own_d10_6) rfl fun T2 hp2 X2 e2 W2 => ?_
  have N2 := Fr.snoc X2 N1 g_a
  have f3 := E_a.wr W2
  have f4 := F_p.same W2
  have f5 := F_q.other W2 (Or.inr (slot_ne (Or.inr (hw _ (List.mem_of_getElem? (i := 58) rfl))) (Or.inr (hw _ (List.mem_of_getElem? (i := 56) rfl))) (by decide) (t := (.object "java/lang/String")) (t' := (.object "java/lang/String")) (by decide) (by decide)))
  have Z6 : n0 ≤ hp2.size := Nat.le_trans Z0 (Keep.of_wr W2).1
  have K7 : Keep h0 hp2 [a] := Kr0.wr W2 (Or.inl (List.mem_of_getElem? (i := 0) rfl))
  refine s_aloadN (pc' := 10) X2.here hx (hb hby own_d10_9) rfl rfl rfl ?_
  refine s_aloadN (pc' := 11) X2.here hx (hb hby own_d10_10) rfl rfl rfl ?_
  refine s_putF (pc' := 14) (ty := (.object "java/lang/String")) X2 hx hZ hown (host := "") (Or.inl (hw _ (List.mem_of_getElem? (i := 57) rfl))) Via.refl e2 f5 f3 (Or.inr ⟨(hw _ (List.mem_of_getElem? (i := 58) rfl)), rfl, hnm⟩) (hw _ (List.mem_of_getElem? (i := 1) rfl)) (by decide) rfl rfl (hb hby own_d10_11) rfl fun T8 hp8 X8 e8 W8 => ?_
  have N8 := Fr.snoc X8 N2 g_a
  have f9 := f3.wr W8
  have f10 := f4.other W8 (Or.inr (slot_ne (Or.inr (hw _ (List.mem_of_getElem? (i := 56) rfl))) (Or.inr (hw _ (List.mem_of_getElem? (i := 58) rfl))) (by decide) (t := (.object "java/lang/String")) (t' := (.object "java/lang/String")) (by decide) (by decide)))
  have f11 := f5.same W8
  have Z12 : n0 ≤ hp8.size := Nat.le_trans Z6 (Keep.of_wr W8).1
  have K13 : Keep h0 hp8 [a] := K7.wr W8 (Or.inl (List.mem_of_getElem? (i := 0) rfl))
  obtain ⟨fs, hr, hrun, hended, hW, hsame⟩ := X8.leave (v := none) (fun _ => rfl)
  refine ⟨_, _, X8.returnOut hx Bd.returns (hb hby own_d10_14) hr, hrun, hended, _, _, rfl, ?_, ⟨_, rfl⟩, hW, hsame.mono (by decide) (by decide)⟩
  show own_ai_Q Z a p1 p2 h0 n0 _ T8.heap _
  rw [e8]
  exact ⟨rfl, N8, K13, f9, f10, f11⟩
theorem own_d12_0 : decode method_6_code 0 = .ok (.iload_n 0, 1) := by decide +kernel
theorem own_d12_1 : decode method_6_code 1 = .ok (.invokestatic 26, 3) := by decide +kernel
theorem own_d12_4 : decode method_6_code 4 = .ok (.istore_n 2, 1) := by decide +kernel
theorem own_d12_5 : decode method_6_code 5 = .ok (.iload_n 2, 1) := by decide +kernel
theorem own_d12_6 : decode method_6_code 6 = .ok (.iload_n 1, 1) := by decide +kernel
theorem own_d12_7 : decode method_6_code 7 = .ok (.invokestatic 26, 3) := by decide +kernel
theorem own_d12_10 : decode method_6_code 10 = .ok (.if_icmp .eq 5, 3) := by decide +kernel
theorem own_d12_13 : decode method_6_code 13 = .ok (.iconst 0, 1) := by decide +kernel
theorem own_d12_14 : decode method_6_code 14 = .ok (.ireturn, 1) := by decide +kernel
theorem own_d12_15 : decode method_6_code 15 = .ok (.iconst 1, 1) := by decide +kernel
theorem own_d12_16 : decode method_6_code 16 = .ok (.istore_n 3, 1) := by decide +kernel
theorem own_d12_17 : decode method_6_code 17 = .ok (.iload_n 2, 1) := by decide +kernel
theorem own_d12_18 : decode method_6_code 18 = .ok (.iconst 1, 1) := by decide +kernel
theorem own_d12_19 : decode method_6_code 19 = .ok (.if_icmp .lt 26, 3) := by decide +kernel
theorem own_d12_45 : decode method_6_code 45 = .ok (.iload_n 2, 1) := by decide +kernel
theorem own_d12_46 : decode method_6_code 46 = .ok (.iconst 2, 1) := by decide +kernel
theorem own_d12_47 : decode method_6_code 47 = .ok (.if_icmp .lt 26, 3) := by decide +kernel
theorem own_d12_73 : decode method_6_code 73 = .ok (.iload_n 2, 1) := by decide +kernel
theorem own_d12_74 : decode method_6_code 74 = .ok (.iconst 3, 1) := by decide +kernel
theorem own_d12_75 : decode method_6_code 75 = .ok (.if_icmp .lt 26, 3) := by decide +kernel
theorem own_d12_101 : decode method_6_code 101 = .ok (.iload_n 3, 1) := by decide +kernel
theorem own_d12_102 : decode method_6_code 102 = .ok (.ireturn, 1) := by decide +kernel
theorem own_d12_22 : decode method_6_code 22 = .ok (.iload_n 3, 1) := by decide +kernel
theorem own_d12_23 : decode method_6_code 23 = .ok (.ifCond .eq 20, 3) := by decide +kernel
theorem own_d12_26 : decode method_6_code 26 = .ok (.iload_n 0, 1) := by decide +kernel
theorem own_d12_27 : decode method_6_code 27 = .ok (.iconst 0, 1) := by decide +kernel
theorem own_d12_28 : decode method_6_code 28 = .ok (.invokestatic 30, 3) := by decide +kernel
theorem own_d12_31 : decode method_6_code 31 = .ok (.iload_n 1, 1) := by decide +kernel
theorem own_d12_32 : decode method_6_code 32 = .ok (.iconst 0, 1) := by decide +kernel
theorem own_d12_33 : decode method_6_code 33 = .ok (.invokestatic 30, 3) := by decide +kernel
theorem own_d12_36 : decode method_6_code 36 = .ok (.if_icmp .ne 7, 3) := by decide +kernel
theorem own_d12_43 : decode method_6_code 43 = .ok (.iconst 0, 1) := by decide +kernel
theorem own_d12_44 : decode method_6_code 44 = .ok (.istore_n 3, 1) := by decide +kernel
theorem own_d12_39 : decode method_6_code 39 = .ok (.iconst 1, 1) := by decide +kernel
theorem own_d12_40 : decode method_6_code 40 = .ok (.goto 4, 3) := by decide +kernel
theorem own_d12_50 : decode method_6_code 50 = .ok (.iload_n 3, 1) := by decide +kernel
theorem own_d12_51 : decode method_6_code 51 = .ok (.ifCond .eq 20, 3) := by decide +kernel
theorem own_d12_71 : decode method_6_code 71 = .ok (.iconst 0, 1) := by decide +kernel
theorem own_d12_72 : decode method_6_code 72 = .ok (.istore_n 3, 1) := by decide +kernel
theorem own_d12_54 : decode method_6_code 54 = .ok (.iload_n 0, 1) := by decide +kernel
theorem own_d12_55 : decode method_6_code 55 = .ok (.iconst 1, 1) := by decide +kernel
theorem own_d12_56 : decode method_6_code 56 = .ok (.invokestatic 30, 3) := by decide +kernel
theorem own_d12_59 : decode method_6_code 59 = .ok (.iload_n 1, 1) := by decide +kernel
theorem own_d12_60 : decode method_6_code 60 = .ok (.iconst 1, 1) := by decide +kernel
theorem own_d12_61 : decode method_6_code 61 = .ok (.invokestatic 30, 3) := by decide +kernel
theorem own_d12_64 : decode method_6_code 64 = .ok (.if_icmp .ne 7, 3) := by decide +kernel
theorem own_d12_67 : decode method_6_code 67 = .ok (.iconst 1, 1) := by decide +kernel
theorem own_d12_68 : decode method_6_code 68 = .ok (.goto 4, 3) := by decide +kernel
theorem own_d12_78 : decode method_6_code 78 = .ok (.iload_n 3, 1) := by decide +kernel
theorem own_d12_79 : decode method_6_code 79 = .ok (.ifCond .eq 20, 3) := by decide +kernel
theorem own_d12_99 : decode method_6_code 99 = .ok (.iconst 0, 1) := by decide +kernel
theorem own_d12_100 : decode method_6_code 100 = .ok (.istore_n 3, 1) := by decide +kernel
theorem own_d12_82 : decode method_6_code 82 = .ok (.iload_n 0, 1) := by decide +kernel
theorem own_d12_83 : decode method_6_code 83 = .ok (.iconst 2, 1) := by decide +kernel
theorem own_d12_84 : decode method_6_code 84 = .ok (.invokestatic 30, 3) := by decide +kernel
theorem own_d12_87 : decode method_6_code 87 = .ok (.iload_n 1, 1) := by decide +kernel
theorem own_d12_88 : decode method_6_code 88 = .ok (.iconst 2, 1) := by decide +kernel
theorem own_d12_89 : decode method_6_code 89 = .ok (.invokestatic 30, 3) := by decide +kernel
theorem own_d12_92 : decode method_6_code 92 = .ok (.if_icmp .ne 7, 3) := by decide +kernel
theorem own_d12_95 : decode method_6_code 95 = .ok (.iconst 1, 1) := by decide +kernel
theorem own_d12_96 : decode method_6_code 96 = .ok (.goto 4, 3) := by decide +kernel
theorem own_sm_ef (m : MethodId) (x : Int32) (y : Int32) (r : Int32) : entryFrame m #[(.int x), (.int y)] 4 = mkF m 0 #[.val (.int x), .val (.int y), .unset, .unset] [] := by first | (simp [entryFrame, mkF, argsToLocals, Value.category]; done) | rfl
def own_sm_Q (Z : State) (x : Int32) (y : Int32) (r : Int32) (h0 : Heap) (n0 : Nat) (v : Option Value) (h : Heap) (L : List Loc) : Prop := v = some (.int r) ∧ Fr n0 L ∧ h = h0
set_option maxRecDepth 65536 in
set_option maxHeartbeats 40000000 in
theorem own_sm (l : Launch) (Z : State) (a0 : Array Value) (hw : ∀ d ∈ tables_1, d.before a0 Z = true) (ws : List Jvm.Cond) (x : Int32) (y : Int32) (r : Int32) (h0 : Heap) (n0 : Nat) (Z0 : n0 ≤ h0.size) (r01 : r = 0 ∨ r = 1) (hrr : r = 1 ↔ own_S x y) :
    MetFree l (⟨"com/example/vestbook/vestbook/AccountIdEqualsPinLaw", "same", "(II)Z"⟩ : MethodName) (head1 (Jvm.Cond.code (⟨"com/example/vestbook/vestbook/AccountIdEqualsPinLaw", "same", "(II)Z"⟩ : MethodName) method_6_code 4 (some .boolean) :: ws) ({ frames := 1, cells := 0, slots := 0, locals := 14 } : Room)) (fun as_ U => as_ = #[(.int x), (.int y)] ∧ Z.Warmed39 U.vm ∧ U.heap = h0) (fun _ _ _ _ _ => True) (fun _ U_ o_ V_ => ∃ v_ L_, o_ = .returned v_ ∧ own_sm_Q Z x y r h0 n0 v_ V_.heap L_ ∧ FrameEnd U_ o_ V_ L_ ({ frames := 1, cells := 0, slots := 0, locals := 14 } : Room).cells ({ frames := 1, cells := 0, slots := 0, locals := 14 } : Room).slots) := by
  refine MetFree.of_bodySF (plainFor_of_name own_pn3) hisR ?_
  intro p e s m args below meth c s₁ Bd hml0 hP hK
  obtain ⟨rfl, hZ, hh⟩ := hP
  have hx := Bd.exec
  have hby := Bd.bytes
  have hml : c.maxLocals = 4 := hml0
  have hown : s.vm.findClass "com/example/vestbook/vestbook/AccountIdEqualsPinLaw" = some m.cls := findClass_of_methodNamed Bd.named
  have hnm := (name_of_methodNamed Bd.named Bd.method).1
  have X0 : Stand p l e ({ frames := 1, cells := 0, slots := 0, locals := 14 } : Room) s m #[(.int x), (.int y)] below meth c s₁ [] 0 0 := Stand.of_body Bd
  have e0 : s₁.heap = h0 := by rw [← hh, Bd.state]; rfl
  have N0 := Fr.nil n0
  refine own_begin (own_sm_ef m x y r) ?_
  show Ends p.tables e below (s₁.setTop (mkF m 0 #[.val (.int x), .val (.int y), .unset, .unset] [])) _
  refine s_iloadN (pc' := 1) X0.here hx (hb hby own_d12_0) rfl rfl ?_
  refine s_callS (pc' := 4) (W := 0) X0 hx hZ  hown (hw _ (List.mem_of_getElem? (i := 7) rfl)) (hw _ (List.mem_of_getElem? (i := 8) rfl)) (hw _ (List.mem_of_getElem? (i := 5) rfl)) (hw _ (List.mem_of_getElem? (i := 9) rfl)) (by decide) e0 (own_len l Z a0 hw [] x h0 n0 Z0 ) (by rw [hml]; rfl) [(.int x)] [] rfl (lenOf own_pd5 rfl) rfl (Nat.le_of_eq rfl) (by decide) (by decide) (by decide) (by decide) rfl (hb hby own_d12_1) fun T1 v1 Lc1 X1 hQ1 => ?_
  obtain ⟨rfl, Nq1, eh1⟩ := hQ1
  have N1 := Fr.app N0 Nq1
  show Ends p.tables e below (T1.setTop (mkF m 4 #[.val (.int x), .val (.int y), .unset, .unset] [(.int (x &&& (3 : Int32)))])) _
  obtain ⟨n3, hn3⟩ : ∃ z : Int32, z = (x &&& (3 : Int32)) := ⟨_, rfl⟩
  rw [← hn3]
  have h4 := own_n3 x n3 hn3
  refine s_istoreN (pc' := 5) X1.here hx (l' := #[.val (.int x), .val (.int y), .val (.int n3), .unset]) (hb hby own_d12_4) rfl rfl ?_
  refine s_iloadN (pc' := 6) X1.here hx (hb hby own_d12_5) rfl rfl ?_
  refine s_iloadN (pc' := 7) X1.here hx (hb hby own_d12_6) rfl rfl ?_
  refine s_callS (pc' := 10) (W := 1) X1 hx hZ  hown (hw _ (List.mem_of_getElem? (i := 7) rfl)) (hw _ (List.mem_of_getElem? (i := 8) rfl)) (hw _ (List.mem_of_getElem? (i := 5) rfl)) (hw _ (List.mem_of_getElem? (i := 9) rfl)) (by decide) eh1 (own_len l Z a0 hw [] y h0 n0 Z0 ) (by rw [hml]; rfl) [(.int y)] [(.int n3)] rfl (lenOf own_pd5 rfl) rfl (Nat.le_of_eq rfl) (by decide) (by decide) (by decide) (by decide) rfl (hb hby own_d12_7) fun T2 v2 Lc2 X2 hQ2 => ?_
  obtain ⟨rfl, Nq2, eh2⟩ := hQ2
  have N2 := Fr.app N1 Nq2
  show Ends p.tables e below (T2.setTop (mkF m 10 #[.val (.int x), .val (.int y), .val (.int n3), .unset] [(.int (y &&& (3 : Int32))), (.int n3)])) _
  by_cases hl : n3 = (y &&& (3 : Int32))
  · refine s_icmpYes (pc' := 15) X2.here hx (hb hby own_d12_10) (teq hl).1 (by decide) (by decide) ?_
    refine s_iconst (pc' := 16) X2.here hx (v := (1 : Int32)) (hb hby own_d12_15) rfl rfl ?_
    refine s_istoreN (pc' := 17) X2.here hx (l' := #[.val (.int x), .val (.int y), .val (.int n3), .val (.int (1 : Int32))]) (hb hby own_d12_16) rfl rfl ?_
    refine s_iloadN (pc' := 18) X2.here hx (hb hby own_d12_17) rfl rfl ?_
    refine s_iconst (pc' := 19) X2.here hx (v := (1 : Int32)) (hb hby own_d12_18) rfl rfl ?_
    rcases h4 with hq_ | hq_ | hq_ | hq_
    · subst hq_
      have hk3 : (0 : Int32) < (1 : Int32) := by decide
      refine s_icmpYes (pc' := 45) X2.here hx (hb hby own_d12_19) (tlt hk3).1 (by decide) (by decide) ?_
      refine s_iloadN (pc' := 46) X2.here hx (hb hby own_d12_45) rfl rfl ?_
      refine s_iconst (pc' := 47) X2.here hx (v := (2 : Int32)) (hb hby own_d12_46) rfl rfl ?_
      have hk4 : (0 : Int32) < (2 : Int32) := by decide
      refine s_icmpYes (pc' := 73) X2.here hx (hb hby own_d12_47) (tlt hk4).1 (by decide) (by decide) ?_
      refine s_iloadN (pc' := 74) X2.here hx (hb hby own_d12_73) rfl rfl ?_
      refine s_iconst (pc' := 75) X2.here hx (v := (3 : Int32)) (hb hby own_d12_74) rfl rfl ?_
      have hk5 : (0 : Int32) < (3 : Int32) := by decide
      refine s_icmpYes (pc' := 101) X2.here hx (hb hby own_d12_75) (tlt hk5).1 (by decide) (by decide) ?_
      refine s_iloadN (pc' := 102) X2.here hx (hb hby own_d12_101) rfl rfl ?_
      obtain ⟨fs, hr, hrun, hended, hW, hsame⟩ := X2.leave (v := some (.int (1 : Int32))) (fun h => by rw [Bd.returns] at h; cases h)
      refine ⟨_, _, retN X2 hx (t := .boolean) Bd.returns (by simp) (hb hby own_d12_102) hr, hrun, hended, _, _, rfl, ?_, ⟨_, rfl⟩, hW, hsame.mono (by decide) (by decide)⟩
      show own_sm_Q Z x y r h0 n0 _ T2.heap _
      rw [eh2]
      exact ⟨by rw [hrr.mpr (own_S0 hn3 hl)] <;> rfl, N2, rfl⟩
    · subst hq_
      have hk6 : ¬ ((1 : Int32) < (1 : Int32)) := by decide
      refine s_icmpNo (pc' := 22) X2.here hx (hb hby own_d12_19) (flt hk6).1 rfl ?_
      refine s_iloadN (pc' := 23) X2.here hx (hb hby own_d12_22) rfl rfl ?_
      have hk7 : ¬ ((1 : Int32) = (0 : Int32)) := by decide
      refine s_ifNo (pc' := 26) X2.here hx (hb hby own_d12_23) ((if0 _ _).trans (feq hk7).1) rfl ?_
      refine s_iloadN (pc' := 27) X2.here hx (hb hby own_d12_26) rfl rfl ?_
      refine s_iconst (pc' := 28) X2.here hx (v := (0 : Int32)) (hb hby own_d12_27) rfl rfl ?_
      refine s_callS (pc' := 31) (W := 0) X2 hx hZ  hown (hw _ (List.mem_of_getElem? (i := 32) rfl)) (hw _ (List.mem_of_getElem? (i := 33) rfl)) (hw _ (List.mem_of_getElem? (i := 5) rfl)) (hw _ (List.mem_of_getElem? (i := 34) rfl)) (by decide) eh2 (own_chr l Z a0 hw [] x (0 : Int32) h0 n0 Z0 ) (by rw [hml]; rfl) [(.int x), (.int (0 : Int32))] [] rfl (lenOf own_pd7 rfl) rfl (Nat.le_of_eq rfl) (by decide) (by decide) (by decide) (by decide) rfl (hb hby own_d12_28) fun T8 v8 Lc8 X8 hQ8 => ?_
      obtain ⟨rfl, Nq8, eh8⟩ := hQ8
      have N8 := Fr.app N2 Nq8
      show Ends p.tables e below (T8.setTop (mkF m 31 #[.val (.int x), .val (.int y), .val (.int (1 : Int32)), .val (.int (1 : Int32))] [(.int (own_c x (0 : Int32)))])) _
      refine s_iloadN (pc' := 32) X8.here hx (hb hby own_d12_31) rfl rfl ?_
      refine s_iconst (pc' := 33) X8.here hx (v := (0 : Int32)) (hb hby own_d12_32) rfl rfl ?_
      refine s_callS (pc' := 36) (W := 1) X8 hx hZ  hown (hw _ (List.mem_of_getElem? (i := 32) rfl)) (hw _ (List.mem_of_getElem? (i := 33) rfl)) (hw _ (List.mem_of_getElem? (i := 5) rfl)) (hw _ (List.mem_of_getElem? (i := 34) rfl)) (by decide) eh8 (own_chr l Z a0 hw [] y (0 : Int32) h0 n0 Z0 ) (by rw [hml]; rfl) [(.int y), (.int (0 : Int32))] [(.int (own_c x (0 : Int32)))] rfl (lenOf own_pd7 rfl) rfl (Nat.le_of_eq rfl) (by decide) (by decide) (by decide) (by decide) rfl (hb hby own_d12_33) fun T9 v9 Lc9 X9 hQ9 => ?_
      obtain ⟨rfl, Nq9, eh9⟩ := hQ9
      have N9 := Fr.app N8 Nq9
      show Ends p.tables e below (T9.setTop (mkF m 36 #[.val (.int x), .val (.int y), .val (.int (1 : Int32)), .val (.int (1 : Int32))] [(.int (own_c y (0 : Int32))), (.int (own_c x (0 : Int32)))])) _
      by_cases hc0 : (own_c x (0 : Int32)) = (own_c y (0 : Int32))
      · refine s_icmpNo (pc' := 39) X9.here hx (hb hby own_d12_36) (teq hc0).2 rfl ?_
        refine s_iconst (pc' := 40) X9.here hx (v := (1 : Int32)) (hb hby own_d12_39) rfl rfl ?_
        refine s_goto (pc' := 44) X9.here hx (hb hby own_d12_40) (by decide) (by decide) ?_
        refine s_istoreN (pc' := 45) X9.here hx (l' := #[.val (.int x), .val (.int y), .val (.int (1 : Int32)), .val (.int (1 : Int32))]) (hb hby own_d12_44) rfl rfl ?_
        refine s_iloadN (pc' := 46) X9.here hx (hb hby own_d12_45) rfl rfl ?_
        refine s_iconst (pc' := 47) X9.here hx (v := (2 : Int32)) (hb hby own_d12_46) rfl rfl ?_
        have hk12 : (1 : Int32) < (2 : Int32) := by decide
        refine s_icmpYes (pc' := 73) X9.here hx (hb hby own_d12_47) (tlt hk12).1 (by decide) (by decide) ?_
        refine s_iloadN (pc' := 74) X9.here hx (hb hby own_d12_73) rfl rfl ?_
        refine s_iconst (pc' := 75) X9.here hx (v := (3 : Int32)) (hb hby own_d12_74) rfl rfl ?_
        have hk13 : (1 : Int32) < (3 : Int32) := by decide
        refine s_icmpYes (pc' := 101) X9.here hx (hb hby own_d12_75) (tlt hk13).1 (by decide) (by decide) ?_
        refine s_iloadN (pc' := 102) X9.here hx (hb hby own_d12_101) rfl rfl ?_
        obtain ⟨fs, hr, hrun, hended, hW, hsame⟩ := X9.leave (v := some (.int (1 : Int32))) (fun h => by rw [Bd.returns] at h; cases h)
        refine ⟨_, _, retN X9 hx (t := .boolean) Bd.returns (by simp) (hb hby own_d12_102) hr, hrun, hended, _, _, rfl, ?_, ⟨_, rfl⟩, hW, hsame.mono (by decide) (by decide)⟩
        show own_sm_Q Z x y r h0 n0 _ T9.heap _
        rw [eh9]
        exact ⟨by rw [hrr.mpr (own_S1 hn3 hl hc0)] <;> rfl, N9, rfl⟩
      · refine s_icmpYes (pc' := 43) X9.here hx (hb hby own_d12_36) (feq hc0).2 (by decide) (by decide) ?_
        refine s_iconst (pc' := 44) X9.here hx (v := (0 : Int32)) (hb hby own_d12_43) rfl rfl ?_
        refine s_istoreN (pc' := 45) X9.here hx (l' := #[.val (.int x), .val (.int y), .val (.int (1 : Int32)), .val (.int (0 : Int32))]) (hb hby own_d12_44) rfl rfl ?_
        refine s_iloadN (pc' := 46) X9.here hx (hb hby own_d12_45) rfl rfl ?_
        refine s_iconst (pc' := 47) X9.here hx (v := (2 : Int32)) (hb hby own_d12_46) rfl rfl ?_
        have hk10 : (1 : Int32) < (2 : Int32) := by decide
        refine s_icmpYes (pc' := 73) X9.here hx (hb hby own_d12_47) (tlt hk10).1 (by decide) (by decide) ?_
        refine s_iloadN (pc' := 74) X9.here hx (hb hby own_d12_73) rfl rfl ?_
        refine s_iconst (pc' := 75) X9.here hx (v := (3 : Int32)) (hb hby own_d12_74) rfl rfl ?_
        have hk11 : (1 : Int32) < (3 : Int32) := by decide
        refine s_icmpYes (pc' := 101) X9.here hx (hb hby own_d12_75) (tlt hk11).1 (by decide) (by decide) ?_
        refine s_iloadN (pc' := 102) X9.here hx (hb hby own_d12_101) rfl rfl ?_
        obtain ⟨fs, hr, hrun, hended, hW, hsame⟩ := X9.leave (v := some (.int (0 : Int32))) (fun h => by rw [Bd.returns] at h; cases h)
        refine ⟨_, _, retN X9 hx (t := .boolean) Bd.returns (by simp) (hb hby own_d12_102) hr, hrun, hended, _, _, rfl, ?_, ⟨_, rfl⟩, hW, hsame.mono (by decide) (by decide)⟩
        show own_sm_Q Z x y r h0 n0 _ T9.heap _
        rw [eh9]
        exact ⟨by rw [own_r0 r01 hrr (fun q => hc0 (own_Sa hn3 q (by decide)))] <;> rfl, N9, rfl⟩
    · subst hq_
      have hk14 : ¬ ((2 : Int32) < (1 : Int32)) := by decide
      refine s_icmpNo (pc' := 22) X2.here hx (hb hby own_d12_19) (flt hk14).1 rfl ?_
      refine s_iloadN (pc' := 23) X2.here hx (hb hby own_d12_22) rfl rfl ?_
      have hk15 : ¬ ((1 : Int32) = (0 : Int32)) := by decide
      refine s_ifNo (pc' := 26) X2.here hx (hb hby own_d12_23) ((if0 _ _).trans (feq hk15).1) rfl ?_
      refine s_iloadN (pc' := 27) X2.here hx (hb hby own_d12_26) rfl rfl ?_
      refine s_iconst (pc' := 28) X2.here hx (v := (0 : Int32)) (hb hby own_d12_27) rfl rfl ?_
      refine s_callS (pc' := 31) (W := 0) X2 hx hZ  hown (hw _ (List.mem_of_getElem? (i := 32) rfl)) (hw _ (List.mem_of_getElem? (i := 33) rfl)) (hw _ (List.mem_of_getElem? (i := 5) rfl)) (hw _ (List.mem_of_getElem? (i := 34) rfl)) (by decide) eh2 (own_chr l Z a0 hw [] x (0 : Int32) h0 n0 Z0 ) (by rw [hml]; rfl) [(.int x), (.int (0 : Int32))] [] rfl (lenOf own_pd7 rfl) rfl (Nat.le_of_eq rfl) (by decide) (by decide) (by decide) (by decide) rfl (hb hby own_d12_28) fun T16 v16 Lc16 X16 hQ16 => ?_
      obtain ⟨rfl, Nq16, eh16⟩ := hQ16
      have N16 := Fr.app N2 Nq16
      show Ends p.tables e below (T16.setTop (mkF m 31 #[.val (.int x), .val (.int y), .val (.int (2 : Int32)), .val (.int (1 : Int32))] [(.int (own_c x (0 : Int32)))])) _
      refine s_iloadN (pc' := 32) X16.here hx (hb hby own_d12_31) rfl rfl ?_
      refine s_iconst (pc' := 33) X16.here hx (v := (0 : Int32)) (hb hby own_d12_32) rfl rfl ?_
      refine s_callS (pc' := 36) (W := 1) X16 hx hZ  hown (hw _ (List.mem_of_getElem? (i := 32) rfl)) (hw _ (List.mem_of_getElem? (i := 33) rfl)) (hw _ (List.mem_of_getElem? (i := 5) rfl)) (hw _ (List.mem_of_getElem? (i := 34) rfl)) (by decide) eh16 (own_chr l Z a0 hw [] y (0 : Int32) h0 n0 Z0 ) (by rw [hml]; rfl) [(.int y), (.int (0 : Int32))] [(.int (own_c x (0 : Int32)))] rfl (lenOf own_pd7 rfl) rfl (Nat.le_of_eq rfl) (by decide) (by decide) (by decide) (by decide) rfl (hb hby own_d12_33) fun T17 v17 Lc17 X17 hQ17 => ?_
      obtain ⟨rfl, Nq17, eh17⟩ := hQ17
      have N17 := Fr.app N16 Nq17
      show Ends p.tables e below (T17.setTop (mkF m 36 #[.val (.int x), .val (.int y), .val (.int (2 : Int32)), .val (.int (1 : Int32))] [(.int (own_c y (0 : Int32))), (.int (own_c x (0 : Int32)))])) _
      by_cases hc0 : (own_c x (0 : Int32)) = (own_c y (0 : Int32))
      · refine s_icmpNo (pc' := 39) X17.here hx (hb hby own_d12_36) (teq hc0).2 rfl ?_
        refine s_iconst (pc' := 40) X17.here hx (v := (1 : Int32)) (hb hby own_d12_39) rfl rfl ?_
        refine s_goto (pc' := 44) X17.here hx (hb hby own_d12_40) (by decide) (by decide) ?_
        refine s_istoreN (pc' := 45) X17.here hx (l' := #[.val (.int x), .val (.int y), .val (.int (2 : Int32)), .val (.int (1 : Int32))]) (hb hby own_d12_44) rfl rfl ?_
        refine s_iloadN (pc' := 46) X17.here hx (hb hby own_d12_45) rfl rfl ?_
        refine s_iconst (pc' := 47) X17.here hx (v := (2 : Int32)) (hb hby own_d12_46) rfl rfl ?_
        have hk21 : ¬ ((2 : Int32) < (2 : Int32)) := by decide
        refine s_icmpNo (pc' := 50) X17.here hx (hb hby own_d12_47) (flt hk21).1 rfl ?_
        refine s_iloadN (pc' := 51) X17.here hx (hb hby own_d12_50) rfl rfl ?_
        have hk22 : ¬ ((1 : Int32) = (0 : Int32)) := by decide
        refine s_ifNo (pc' := 54) X17.here hx (hb hby own_d12_51) ((if0 _ _).trans (feq hk22).1) rfl ?_
        refine s_iloadN (pc' := 55) X17.here hx (hb hby own_d12_54) rfl rfl ?_
        refine s_iconst (pc' := 56) X17.here hx (v := (1 : Int32)) (hb hby own_d12_55) rfl rfl ?_
        refine s_callS (pc' := 59) (W := 0) X17 hx hZ  hown (hw _ (List.mem_of_getElem? (i := 32) rfl)) (hw _ (List.mem_of_getElem? (i := 33) rfl)) (hw _ (List.mem_of_getElem? (i := 5) rfl)) (hw _ (List.mem_of_getElem? (i := 34) rfl)) (by decide) eh17 (own_chr l Z a0 hw [] x (1 : Int32) h0 n0 Z0 ) (by rw [hml]; rfl) [(.int x), (.int (1 : Int32))] [] rfl (lenOf own_pd7 rfl) rfl (Nat.le_of_eq rfl) (by decide) (by decide) (by decide) (by decide) rfl (hb hby own_d12_56) fun T23 v23 Lc23 X23 hQ23 => ?_
        obtain ⟨rfl, Nq23, eh23⟩ := hQ23
        have N23 := Fr.app N17 Nq23
        show Ends p.tables e below (T23.setTop (mkF m 59 #[.val (.int x), .val (.int y), .val (.int (2 : Int32)), .val (.int (1 : Int32))] [(.int (own_c x (1 : Int32)))])) _
        refine s_iloadN (pc' := 60) X23.here hx (hb hby own_d12_59) rfl rfl ?_
        refine s_iconst (pc' := 61) X23.here hx (v := (1 : Int32)) (hb hby own_d12_60) rfl rfl ?_
        refine s_callS (pc' := 64) (W := 1) X23 hx hZ  hown (hw _ (List.mem_of_getElem? (i := 32) rfl)) (hw _ (List.mem_of_getElem? (i := 33) rfl)) (hw _ (List.mem_of_getElem? (i := 5) rfl)) (hw _ (List.mem_of_getElem? (i := 34) rfl)) (by decide) eh23 (own_chr l Z a0 hw [] y (1 : Int32) h0 n0 Z0 ) (by rw [hml]; rfl) [(.int y), (.int (1 : Int32))] [(.int (own_c x (1 : Int32)))] rfl (lenOf own_pd7 rfl) rfl (Nat.le_of_eq rfl) (by decide) (by decide) (by decide) (by decide) rfl (hb hby own_d12_61) fun T24 v24 Lc24 X24 hQ24 => ?_
        obtain ⟨rfl, Nq24, eh24⟩ := hQ24
        have N24 := Fr.app N23 Nq24
        show Ends p.tables e below (T24.setTop (mkF m 64 #[.val (.int x), .val (.int y), .val (.int (2 : Int32)), .val (.int (1 : Int32))] [(.int (own_c y (1 : Int32))), (.int (own_c x (1 : Int32)))])) _
        by_cases hc1 : (own_c x (1 : Int32)) = (own_c y (1 : Int32))
        · refine s_icmpNo (pc' := 67) X24.here hx (hb hby own_d12_64) (teq hc1).2 rfl ?_
          refine s_iconst (pc' := 68) X24.here hx (v := (1 : Int32)) (hb hby own_d12_67) rfl rfl ?_
          refine s_goto (pc' := 72) X24.here hx (hb hby own_d12_68) (by decide) (by decide) ?_
          refine s_istoreN (pc' := 73) X24.here hx (l' := #[.val (.int x), .val (.int y), .val (.int (2 : Int32)), .val (.int (1 : Int32))]) (hb hby own_d12_72) rfl rfl ?_
          refine s_iloadN (pc' := 74) X24.here hx (hb hby own_d12_73) rfl rfl ?_
          refine s_iconst (pc' := 75) X24.here hx (v := (3 : Int32)) (hb hby own_d12_74) rfl rfl ?_
          have hk26 : (2 : Int32) < (3 : Int32) := by decide
          refine s_icmpYes (pc' := 101) X24.here hx (hb hby own_d12_75) (tlt hk26).1 (by decide) (by decide) ?_
          refine s_iloadN (pc' := 102) X24.here hx (hb hby own_d12_101) rfl rfl ?_
          obtain ⟨fs, hr, hrun, hended, hW, hsame⟩ := X24.leave (v := some (.int (1 : Int32))) (fun h => by rw [Bd.returns] at h; cases h)
          refine ⟨_, _, retN X24 hx (t := .boolean) Bd.returns (by simp) (hb hby own_d12_102) hr, hrun, hended, _, _, rfl, ?_, ⟨_, rfl⟩, hW, hsame.mono (by decide) (by decide)⟩
          show own_sm_Q Z x y r h0 n0 _ T24.heap _
          rw [eh24]
          exact ⟨by rw [hrr.mpr (own_S2 hn3 hl hc0 hc1)] <;> rfl, N24, rfl⟩
        · refine s_icmpYes (pc' := 71) X24.here hx (hb hby own_d12_64) (feq hc1).2 (by decide) (by decide) ?_
          refine s_iconst (pc' := 72) X24.here hx (v := (0 : Int32)) (hb hby own_d12_71) rfl rfl ?_
          refine s_istoreN (pc' := 73) X24.here hx (l' := #[.val (.int x), .val (.int y), .val (.int (2 : Int32)), .val (.int (0 : Int32))]) (hb hby own_d12_72) rfl rfl ?_
          refine s_iloadN (pc' := 74) X24.here hx (hb hby own_d12_73) rfl rfl ?_
          refine s_iconst (pc' := 75) X24.here hx (v := (3 : Int32)) (hb hby own_d12_74) rfl rfl ?_
          have hk25 : (2 : Int32) < (3 : Int32) := by decide
          refine s_icmpYes (pc' := 101) X24.here hx (hb hby own_d12_75) (tlt hk25).1 (by decide) (by decide) ?_
          refine s_iloadN (pc' := 102) X24.here hx (hb hby own_d12_101) rfl rfl ?_
          obtain ⟨fs, hr, hrun, hended, hW, hsame⟩ := X24.leave (v := some (.int (0 : Int32))) (fun h => by rw [Bd.returns] at h; cases h)
          refine ⟨_, _, retN X24 hx (t := .boolean) Bd.returns (by simp) (hb hby own_d12_102) hr, hrun, hended, _, _, rfl, ?_, ⟨_, rfl⟩, hW, hsame.mono (by decide) (by decide)⟩
          show own_sm_Q Z x y r h0 n0 _ T24.heap _
          rw [eh24]
          exact ⟨by rw [own_r0 r01 hrr (fun q => hc1 (own_Sb hn3 q (by decide)))] <;> rfl, N24, rfl⟩
      · refine s_icmpYes (pc' := 43) X17.here hx (hb hby own_d12_36) (feq hc0).2 (by decide) (by decide) ?_
        refine s_iconst (pc' := 44) X17.here hx (v := (0 : Int32)) (hb hby own_d12_43) rfl rfl ?_
        refine s_istoreN (pc' := 45) X17.here hx (l' := #[.val (.int x), .val (.int y), .val (.int (2 : Int32)), .val (.int (0 : Int32))]) (hb hby own_d12_44) rfl rfl ?_
        refine s_iloadN (pc' := 46) X17.here hx (hb hby own_d12_45) rfl rfl ?_
        refine s_iconst (pc' := 47) X17.here hx (v := (2 : Int32)) (hb hby own_d12_46) rfl rfl ?_
        have hk18 : ¬ ((2 : Int32) < (2 : Int32)) := by decide
        refine s_icmpNo (pc' := 50) X17.here hx (hb hby own_d12_47) (flt hk18).1 rfl ?_
        refine s_iloadN (pc' := 51) X17.here hx (hb hby own_d12_50) rfl rfl ?_
        have hk19 : (0 : Int32) = (0 : Int32) := rfl
        refine s_ifYes (pc' := 71) X17.here hx (hb hby own_d12_51) ((if0 _ _).trans (teq hk19).1) (by decide) (by decide) ?_
        refine s_iconst (pc' := 72) X17.here hx (v := (0 : Int32)) (hb hby own_d12_71) rfl rfl ?_
        refine s_istoreN (pc' := 73) X17.here hx (l' := #[.val (.int x), .val (.int y), .val (.int (2 : Int32)), .val (.int (0 : Int32))]) (hb hby own_d12_72) rfl rfl ?_
        refine s_iloadN (pc' := 74) X17.here hx (hb hby own_d12_73) rfl rfl ?_
        refine s_iconst (pc' := 75) X17.here hx (v := (3 : Int32)) (hb hby own_d12_74) rfl rfl ?_
        have hk20 : (2 : Int32) < (3 : Int32) := by decide
        refine s_icmpYes (pc' := 101) X17.here hx (hb hby own_d12_75) (tlt hk20).1 (by decide) (by decide) ?_
        refine s_iloadN (pc' := 102) X17.here hx (hb hby own_d12_101) rfl rfl ?_
        obtain ⟨fs, hr, hrun, hended, hW, hsame⟩ := X17.leave (v := some (.int (0 : Int32))) (fun h => by rw [Bd.returns] at h; cases h)
        refine ⟨_, _, retN X17 hx (t := .boolean) Bd.returns (by simp) (hb hby own_d12_102) hr, hrun, hended, _, _, rfl, ?_, ⟨_, rfl⟩, hW, hsame.mono (by decide) (by decide)⟩
        show own_sm_Q Z x y r h0 n0 _ T17.heap _
        rw [eh17]
        exact ⟨by rw [own_r0 r01 hrr (fun q => hc0 (own_Sa hn3 q (by decide)))] <;> rfl, N17, rfl⟩
    · subst hq_
      have hk27 : ¬ ((3 : Int32) < (1 : Int32)) := by decide
      refine s_icmpNo (pc' := 22) X2.here hx (hb hby own_d12_19) (flt hk27).1 rfl ?_
      refine s_iloadN (pc' := 23) X2.here hx (hb hby own_d12_22) rfl rfl ?_
      have hk28 : ¬ ((1 : Int32) = (0 : Int32)) := by decide
      refine s_ifNo (pc' := 26) X2.here hx (hb hby own_d12_23) ((if0 _ _).trans (feq hk28).1) rfl ?_
      refine s_iloadN (pc' := 27) X2.here hx (hb hby own_d12_26) rfl rfl ?_
      refine s_iconst (pc' := 28) X2.here hx (v := (0 : Int32)) (hb hby own_d12_27) rfl rfl ?_
      refine s_callS (pc' := 31) (W := 0) X2 hx hZ  hown (hw _ (List.mem_of_getElem? (i := 32) rfl)) (hw _ (List.mem_of_getElem? (i := 33) rfl)) (hw _ (List.mem_of_getElem? (i := 5) rfl)) (hw _ (List.mem_of_getElem? (i := 34) rfl)) (by decide) eh2 (own_chr l Z a0 hw [] x (0 : Int32) h0 n0 Z0 ) (by rw [hml]; rfl) [(.int x), (.int (0 : Int32))] [] rfl (lenOf own_pd7 rfl) rfl (Nat.le_of_eq rfl) (by decide) (by decide) (by decide) (by decide) rfl (hb hby own_d12_28) fun T29 v29 Lc29 X29 hQ29 => ?_
      obtain ⟨rfl, Nq29, eh29⟩ := hQ29
      have N29 := Fr.app N2 Nq29
      show Ends p.tables e below (T29.setTop (mkF m 31 #[.val (.int x), .val (.int y), .val (.int (3 : Int32)), .val (.int (1 : Int32))] [(.int (own_c x (0 : Int32)))])) _
      refine s_iloadN (pc' := 32) X29.here hx (hb hby own_d12_31) rfl rfl ?_
      refine s_iconst (pc' := 33) X29.here hx (v := (0 : Int32)) (hb hby own_d12_32) rfl rfl ?_
      refine s_callS (pc' := 36) (W := 1) X29 hx hZ  hown (hw _ (List.mem_of_getElem? (i := 32) rfl)) (hw _ (List.mem_of_getElem? (i := 33) rfl)) (hw _ (List.mem_of_getElem? (i := 5) rfl)) (hw _ (List.mem_of_getElem? (i := 34) rfl)) (by decide) eh29 (own_chr l Z a0 hw [] y (0 : Int32) h0 n0 Z0 ) (by rw [hml]; rfl) [(.int y), (.int (0 : Int32))] [(.int (own_c x (0 : Int32)))] rfl (lenOf own_pd7 rfl) rfl (Nat.le_of_eq rfl) (by decide) (by decide) (by decide) (by decide) rfl (hb hby own_d12_33) fun T30 v30 Lc30 X30 hQ30 => ?_
      obtain ⟨rfl, Nq30, eh30⟩ := hQ30
      have N30 := Fr.app N29 Nq30
      show Ends p.tables e below (T30.setTop (mkF m 36 #[.val (.int x), .val (.int y), .val (.int (3 : Int32)), .val (.int (1 : Int32))] [(.int (own_c y (0 : Int32))), (.int (own_c x (0 : Int32)))])) _
      by_cases hc0 : (own_c x (0 : Int32)) = (own_c y (0 : Int32))
      · refine s_icmpNo (pc' := 39) X30.here hx (hb hby own_d12_36) (teq hc0).2 rfl ?_
        refine s_iconst (pc' := 40) X30.here hx (v := (1 : Int32)) (hb hby own_d12_39) rfl rfl ?_
        refine s_goto (pc' := 44) X30.here hx (hb hby own_d12_40) (by decide) (by decide) ?_
        refine s_istoreN (pc' := 45) X30.here hx (l' := #[.val (.int x), .val (.int y), .val (.int (3 : Int32)), .val (.int (1 : Int32))]) (hb hby own_d12_44) rfl rfl ?_
        refine s_iloadN (pc' := 46) X30.here hx (hb hby own_d12_45) rfl rfl ?_
        refine s_iconst (pc' := 47) X30.here hx (v := (2 : Int32)) (hb hby own_d12_46) rfl rfl ?_
        have hk35 : ¬ ((3 : Int32) < (2 : Int32)) := by decide
        refine s_icmpNo (pc' := 50) X30.here hx (hb hby own_d12_47) (flt hk35).1 rfl ?_
        refine s_iloadN (pc' := 51) X30.here hx (hb hby own_d12_50) rfl rfl ?_
        have hk36 : ¬ ((1 : Int32) = (0 : Int32)) := by decide
        refine s_ifNo (pc' := 54) X30.here hx (hb hby own_d12_51) ((if0 _ _).trans (feq hk36).1) rfl ?_
        refine s_iloadN (pc' := 55) X30.here hx (hb hby own_d12_54) rfl rfl ?_
        refine s_iconst (pc' := 56) X30.here hx (v := (1 : Int32)) (hb hby own_d12_55) rfl rfl ?_
        refine s_callS (pc' := 59) (W := 0) X30 hx hZ  hown (hw _ (List.mem_of_getElem? (i := 32) rfl)) (hw _ (List.mem_of_getElem? (i := 33) rfl)) (hw _ (List.mem_of_getElem? (i := 5) rfl)) (hw _ (List.mem_of_getElem? (i := 34) rfl)) (by decide) eh30 (own_chr l Z a0 hw [] x (1 : Int32) h0 n0 Z0 ) (by rw [hml]; rfl) [(.int x), (.int (1 : Int32))] [] rfl (lenOf own_pd7 rfl) rfl (Nat.le_of_eq rfl) (by decide) (by decide) (by decide) (by decide) rfl (hb hby own_d12_56) fun T37 v37 Lc37 X37 hQ37 => ?_
        obtain ⟨rfl, Nq37, eh37⟩ := hQ37
        have N37 := Fr.app N30 Nq37
        show Ends p.tables e below (T37.setTop (mkF m 59 #[.val (.int x), .val (.int y), .val (.int (3 : Int32)), .val (.int (1 : Int32))] [(.int (own_c x (1 : Int32)))])) _
        refine s_iloadN (pc' := 60) X37.here hx (hb hby own_d12_59) rfl rfl ?_
        refine s_iconst (pc' := 61) X37.here hx (v := (1 : Int32)) (hb hby own_d12_60) rfl rfl ?_
        refine s_callS (pc' := 64) (W := 1) X37 hx hZ  hown (hw _ (List.mem_of_getElem? (i := 32) rfl)) (hw _ (List.mem_of_getElem? (i := 33) rfl)) (hw _ (List.mem_of_getElem? (i := 5) rfl)) (hw _ (List.mem_of_getElem? (i := 34) rfl)) (by decide) eh37 (own_chr l Z a0 hw [] y (1 : Int32) h0 n0 Z0 ) (by rw [hml]; rfl) [(.int y), (.int (1 : Int32))] [(.int (own_c x (1 : Int32)))] rfl (lenOf own_pd7 rfl) rfl (Nat.le_of_eq rfl) (by decide) (by decide) (by decide) (by decide) rfl (hb hby own_d12_61) fun T38 v38 Lc38 X38 hQ38 => ?_
        obtain ⟨rfl, Nq38, eh38⟩ := hQ38
        have N38 := Fr.app N37 Nq38
        show Ends p.tables e below (T38.setTop (mkF m 64 #[.val (.int x), .val (.int y), .val (.int (3 : Int32)), .val (.int (1 : Int32))] [(.int (own_c y (1 : Int32))), (.int (own_c x (1 : Int32)))])) _
        by_cases hc1 : (own_c x (1 : Int32)) = (own_c y (1 : Int32))
        · refine s_icmpNo (pc' := 67) X38.here hx (hb hby own_d12_64) (teq hc1).2 rfl ?_
          refine s_iconst (pc' := 68) X38.here hx (v := (1 : Int32)) (hb hby own_d12_67) rfl rfl ?_
          refine s_goto (pc' := 72) X38.here hx (hb hby own_d12_68) (by decide) (by decide) ?_
          refine s_istoreN (pc' := 73) X38.here hx (l' := #[.val (.int x), .val (.int y), .val (.int (3 : Int32)), .val (.int (1 : Int32))]) (hb hby own_d12_72) rfl rfl ?_
          refine s_iloadN (pc' := 74) X38.here hx (hb hby own_d12_73) rfl rfl ?_
          refine s_iconst (pc' := 75) X38.here hx (v := (3 : Int32)) (hb hby own_d12_74) rfl rfl ?_
          have hk41 : ¬ ((3 : Int32) < (3 : Int32)) := by decide
          refine s_icmpNo (pc' := 78) X38.here hx (hb hby own_d12_75) (flt hk41).1 rfl ?_
          refine s_iloadN (pc' := 79) X38.here hx (hb hby own_d12_78) rfl rfl ?_
          have hk42 : ¬ ((1 : Int32) = (0 : Int32)) := by decide
          refine s_ifNo (pc' := 82) X38.here hx (hb hby own_d12_79) ((if0 _ _).trans (feq hk42).1) rfl ?_
          refine s_iloadN (pc' := 83) X38.here hx (hb hby own_d12_82) rfl rfl ?_
          refine s_iconst (pc' := 84) X38.here hx (v := (2 : Int32)) (hb hby own_d12_83) rfl rfl ?_
          refine s_callS (pc' := 87) (W := 0) X38 hx hZ  hown (hw _ (List.mem_of_getElem? (i := 32) rfl)) (hw _ (List.mem_of_getElem? (i := 33) rfl)) (hw _ (List.mem_of_getElem? (i := 5) rfl)) (hw _ (List.mem_of_getElem? (i := 34) rfl)) (by decide) eh38 (own_chr l Z a0 hw [] x (2 : Int32) h0 n0 Z0 ) (by rw [hml]; rfl) [(.int x), (.int (2 : Int32))] [] rfl (lenOf own_pd7 rfl) rfl (Nat.le_of_eq rfl) (by decide) (by decide) (by decide) (by decide) rfl (hb hby own_d12_84) fun T43 v43 Lc43 X43 hQ43 => ?_
          obtain ⟨rfl, Nq43, eh43⟩ := hQ43
          have N43 := Fr.app N38 Nq43
          show Ends p.tables e below (T43.setTop (mkF m 87 #[.val (.int x), .val (.int y), .val (.int (3 : Int32)), .val (.int (1 : Int32))] [(.int (own_c x (2 : Int32)))])) _
          refine s_iloadN (pc' := 88) X43.here hx (hb hby own_d12_87) rfl rfl ?_
          refine s_iconst (pc' := 89) X43.here hx (v := (2 : Int32)) (hb hby own_d12_88) rfl rfl ?_
          refine s_callS (pc' := 92) (W := 1) X43 hx hZ  hown (hw _ (List.mem_of_getElem? (i := 32) rfl)) (hw _ (List.mem_of_getElem? (i := 33) rfl)) (hw _ (List.mem_of_getElem? (i := 5) rfl)) (hw _ (List.mem_of_getElem? (i := 34) rfl)) (by decide) eh43 (own_chr l Z a0 hw [] y (2 : Int32) h0 n0 Z0 ) (by rw [hml]; rfl) [(.int y), (.int (2 : Int32))] [(.int (own_c x (2 : Int32)))] rfl (lenOf own_pd7 rfl) rfl (Nat.le_of_eq rfl) (by decide) (by decide) (by decide) (by decide) rfl (hb hby own_d12_89) fun T44 v44 Lc44 X44 hQ44 => ?_
          obtain ⟨rfl, Nq44, eh44⟩ := hQ44
          have N44 := Fr.app N43 Nq44
          show Ends p.tables e below (T44.setTop (mkF m 92 #[.val (.int x), .val (.int y), .val (.int (3 : Int32)), .val (.int (1 : Int32))] [(.int (own_c y (2 : Int32))), (.int (own_c x (2 : Int32)))])) _
          by_cases hc2 : (own_c x (2 : Int32)) = (own_c y (2 : Int32))
          · refine s_icmpNo (pc' := 95) X44.here hx (hb hby own_d12_92) (teq hc2).2 rfl ?_
            refine s_iconst (pc' := 96) X44.here hx (v := (1 : Int32)) (hb hby own_d12_95) rfl rfl ?_
            refine s_goto (pc' := 100) X44.here hx (hb hby own_d12_96) (by decide) (by decide) ?_
            refine s_istoreN (pc' := 101) X44.here hx (l' := #[.val (.int x), .val (.int y), .val (.int (3 : Int32)), .val (.int (1 : Int32))]) (hb hby own_d12_100) rfl rfl ?_
            refine s_iloadN (pc' := 102) X44.here hx (hb hby own_d12_101) rfl rfl ?_
            obtain ⟨fs, hr, hrun, hended, hW, hsame⟩ := X44.leave (v := some (.int (1 : Int32))) (fun h => by rw [Bd.returns] at h; cases h)
            refine ⟨_, _, retN X44 hx (t := .boolean) Bd.returns (by simp) (hb hby own_d12_102) hr, hrun, hended, _, _, rfl, ?_, ⟨_, rfl⟩, hW, hsame.mono (by decide) (by decide)⟩
            show own_sm_Q Z x y r h0 n0 _ T44.heap _
            rw [eh44]
            exact ⟨by rw [hrr.mpr (own_S3 hn3 hl hc0 hc1 hc2)] <;> rfl, N44, rfl⟩
          · refine s_icmpYes (pc' := 99) X44.here hx (hb hby own_d12_92) (feq hc2).2 (by decide) (by decide) ?_
            refine s_iconst (pc' := 100) X44.here hx (v := (0 : Int32)) (hb hby own_d12_99) rfl rfl ?_
            refine s_istoreN (pc' := 101) X44.here hx (l' := #[.val (.int x), .val (.int y), .val (.int (3 : Int32)), .val (.int (0 : Int32))]) (hb hby own_d12_100) rfl rfl ?_
            refine s_iloadN (pc' := 102) X44.here hx (hb hby own_d12_101) rfl rfl ?_
            obtain ⟨fs, hr, hrun, hended, hW, hsame⟩ := X44.leave (v := some (.int (0 : Int32))) (fun h => by rw [Bd.returns] at h; cases h)
            refine ⟨_, _, retN X44 hx (t := .boolean) Bd.returns (by simp) (hb hby own_d12_102) hr, hrun, hended, _, _, rfl, ?_, ⟨_, rfl⟩, hW, hsame.mono (by decide) (by decide)⟩
            show own_sm_Q Z x y r h0 n0 _ T44.heap _
            rw [eh44]
            exact ⟨by rw [own_r0 r01 hrr (fun q => hc2 (own_Sc hn3 q (by decide)))] <;> rfl, N44, rfl⟩
        · refine s_icmpYes (pc' := 71) X38.here hx (hb hby own_d12_64) (feq hc1).2 (by decide) (by decide) ?_
          refine s_iconst (pc' := 72) X38.here hx (v := (0 : Int32)) (hb hby own_d12_71) rfl rfl ?_
          refine s_istoreN (pc' := 73) X38.here hx (l' := #[.val (.int x), .val (.int y), .val (.int (3 : Int32)), .val (.int (0 : Int32))]) (hb hby own_d12_72) rfl rfl ?_
          refine s_iloadN (pc' := 74) X38.here hx (hb hby own_d12_73) rfl rfl ?_
          refine s_iconst (pc' := 75) X38.here hx (v := (3 : Int32)) (hb hby own_d12_74) rfl rfl ?_
          have hk39 : ¬ ((3 : Int32) < (3 : Int32)) := by decide
          refine s_icmpNo (pc' := 78) X38.here hx (hb hby own_d12_75) (flt hk39).1 rfl ?_
          refine s_iloadN (pc' := 79) X38.here hx (hb hby own_d12_78) rfl rfl ?_
          have hk40 : (0 : Int32) = (0 : Int32) := rfl
          refine s_ifYes (pc' := 99) X38.here hx (hb hby own_d12_79) ((if0 _ _).trans (teq hk40).1) (by decide) (by decide) ?_
          refine s_iconst (pc' := 100) X38.here hx (v := (0 : Int32)) (hb hby own_d12_99) rfl rfl ?_
          refine s_istoreN (pc' := 101) X38.here hx (l' := #[.val (.int x), .val (.int y), .val (.int (3 : Int32)), .val (.int (0 : Int32))]) (hb hby own_d12_100) rfl rfl ?_
          refine s_iloadN (pc' := 102) X38.here hx (hb hby own_d12_101) rfl rfl ?_
          obtain ⟨fs, hr, hrun, hended, hW, hsame⟩ := X38.leave (v := some (.int (0 : Int32))) (fun h => by rw [Bd.returns] at h; cases h)
          refine ⟨_, _, retN X38 hx (t := .boolean) Bd.returns (by simp) (hb hby own_d12_102) hr, hrun, hended, _, _, rfl, ?_, ⟨_, rfl⟩, hW, hsame.mono (by decide) (by decide)⟩
          show own_sm_Q Z x y r h0 n0 _ T38.heap _
          rw [eh38]
          exact ⟨by rw [own_r0 r01 hrr (fun q => hc1 (own_Sb hn3 q (by decide)))] <;> rfl, N38, rfl⟩
      · refine s_icmpYes (pc' := 43) X30.here hx (hb hby own_d12_36) (feq hc0).2 (by decide) (by decide) ?_
        refine s_iconst (pc' := 44) X30.here hx (v := (0 : Int32)) (hb hby own_d12_43) rfl rfl ?_
        refine s_istoreN (pc' := 45) X30.here hx (l' := #[.val (.int x), .val (.int y), .val (.int (3 : Int32)), .val (.int (0 : Int32))]) (hb hby own_d12_44) rfl rfl ?_
        refine s_iloadN (pc' := 46) X30.here hx (hb hby own_d12_45) rfl rfl ?_
        refine s_iconst (pc' := 47) X30.here hx (v := (2 : Int32)) (hb hby own_d12_46) rfl rfl ?_
        have hk31 : ¬ ((3 : Int32) < (2 : Int32)) := by decide
        refine s_icmpNo (pc' := 50) X30.here hx (hb hby own_d12_47) (flt hk31).1 rfl ?_
        refine s_iloadN (pc' := 51) X30.here hx (hb hby own_d12_50) rfl rfl ?_
        have hk32 : (0 : Int32) = (0 : Int32) := rfl
        refine s_ifYes (pc' := 71) X30.here hx (hb hby own_d12_51) ((if0 _ _).trans (teq hk32).1) (by decide) (by decide) ?_
        refine s_iconst (pc' := 72) X30.here hx (v := (0 : Int32)) (hb hby own_d12_71) rfl rfl ?_
        refine s_istoreN (pc' := 73) X30.here hx (l' := #[.val (.int x), .val (.int y), .val (.int (3 : Int32)), .val (.int (0 : Int32))]) (hb hby own_d12_72) rfl rfl ?_
        refine s_iloadN (pc' := 74) X30.here hx (hb hby own_d12_73) rfl rfl ?_
        refine s_iconst (pc' := 75) X30.here hx (v := (3 : Int32)) (hb hby own_d12_74) rfl rfl ?_
        have hk33 : ¬ ((3 : Int32) < (3 : Int32)) := by decide
        refine s_icmpNo (pc' := 78) X30.here hx (hb hby own_d12_75) (flt hk33).1 rfl ?_
        refine s_iloadN (pc' := 79) X30.here hx (hb hby own_d12_78) rfl rfl ?_
        have hk34 : (0 : Int32) = (0 : Int32) := rfl
        refine s_ifYes (pc' := 99) X30.here hx (hb hby own_d12_79) ((if0 _ _).trans (teq hk34).1) (by decide) (by decide) ?_
        refine s_iconst (pc' := 100) X30.here hx (v := (0 : Int32)) (hb hby own_d12_99) rfl rfl ?_
        refine s_istoreN (pc' := 101) X30.here hx (l' := #[.val (.int x), .val (.int y), .val (.int (3 : Int32)), .val (.int (0 : Int32))]) (hb hby own_d12_100) rfl rfl ?_
        refine s_iloadN (pc' := 102) X30.here hx (hb hby own_d12_101) rfl rfl ?_
        obtain ⟨fs, hr, hrun, hended, hW, hsame⟩ := X30.leave (v := some (.int (0 : Int32))) (fun h => by rw [Bd.returns] at h; cases h)
        refine ⟨_, _, retN X30 hx (t := .boolean) Bd.returns (by simp) (hb hby own_d12_102) hr, hrun, hended, _, _, rfl, ?_, ⟨_, rfl⟩, hW, hsame.mono (by decide) (by decide)⟩
        show own_sm_Q Z x y r h0 n0 _ T30.heap _
        rw [eh30]
        exact ⟨by rw [own_r0 r01 hrr (fun q => hc0 (own_Sa hn3 q (by decide)))] <;> rfl, N30, rfl⟩
  · refine s_icmpNo (pc' := 13) X2.here hx (hb hby own_d12_10) (feq hl).1 rfl ?_
    refine s_iconst (pc' := 14) X2.here hx (v := (0 : Int32)) (hb hby own_d12_13) rfl rfl ?_
    obtain ⟨fs, hr, hrun, hended, hW, hsame⟩ := X2.leave (v := some (.int (0 : Int32))) (fun h => by rw [Bd.returns] at h; cases h)
    refine ⟨_, _, retN X2 hx (t := .boolean) Bd.returns (by simp) (hb hby own_d12_14) hr, hrun, hended, _, _, rfl, ?_, ⟨_, rfl⟩, hW, hsame.mono (by decide) (by decide)⟩
    show own_sm_Q Z x y r h0 n0 _ T2.heap _
    rw [eh2]
    exact ⟨by rw [own_r0 r01 hrr (fun q => hl (hn3.trans q.1))] <;> rfl, N2, rfl⟩
theorem own_d13_0 : decode prog_1_method_4_code 0 = .ok (.aload_n 1, 1) := by decide +kernel
theorem own_d13_1 : decode prog_1_method_4_code 1 = .ok (.instanceof 8, 3) := by decide +kernel
theorem own_d13_4 : decode prog_1_method_4_code 4 = .ok (.ifCond .eq 40, 3) := by decide +kernel
theorem own_d13_44 : decode prog_1_method_4_code 44 = .ok (.iconst 0, 1) := by decide +kernel
theorem own_d13_45 : decode prog_1_method_4_code 45 = .ok (.ireturn, 1) := by decide +kernel
theorem own_eqN_ef (m : MethodId) (a : Addr) : entryFrame m #[(.ref a), .null] 3 = mkF m 0 #[.val (.ref a), .val .null, .unset] [] := by first | (simp [entryFrame, mkF, argsToLocals, Value.category]; done) | rfl
def own_eqN_Q (Z : State) (a : Addr) (h0 : Heap) (n0 : Nat) (v : Option Value) (h : Heap) (L : List Loc) : Prop := v = some (.int 0) ∧ Fr n0 L ∧ h = h0
set_option maxRecDepth 65536 in
set_option maxHeartbeats 40000000 in
theorem own_eqN (l : Launch) (Z : State) (a0 : Array Value) (hw : ∀ d ∈ tables_1, d.before a0 Z = true) (ws : List Jvm.Cond) (a : Addr) (h0 : Heap) (n0 : Nat) (Z0 : n0 ≤ h0.size) :
    MetFree l (⟨"com/example/vestbook/vestbook/AccountId", "equals", "(Ljava/lang/Object;)Z"⟩ : MethodName) (head1 (Jvm.Cond.code (⟨"com/example/vestbook/vestbook/AccountId", "equals", "(Ljava/lang/Object;)Z"⟩ : MethodName) prog_1_method_4_code 3 (some .boolean) :: ws) ({ frames := 0, cells := 0, slots := 0, locals := 0 } : Room)) (fun as_ U => as_ = #[(.ref a), .null] ∧ Z.Warmed39 U.vm ∧ U.heap = h0) (fun _ _ _ _ _ => True) (fun _ U_ o_ V_ => ∃ v_ L_, o_ = .returned v_ ∧ own_eqN_Q Z a h0 n0 v_ V_.heap L_ ∧ FrameEnd U_ o_ V_ L_ ({ frames := 0, cells := 0, slots := 0, locals := 0 } : Room).cells ({ frames := 0, cells := 0, slots := 0, locals := 0 } : Room).slots) := by
  refine MetFree.of_bodySF (plainFor_of_name own_pn5) hisR ?_
  intro p e s m args below meth c s₁ Bd hml0 hP hK
  obtain ⟨rfl, hZ, hh⟩ := hP
  have hx := Bd.exec
  have hby := Bd.bytes
  have hml : c.maxLocals = 3 := hml0
  have hown : s.vm.findClass "com/example/vestbook/vestbook/AccountId" = some m.cls := findClass_of_methodNamed Bd.named
  have hnm := (name_of_methodNamed Bd.named Bd.method).1
  have X0 : Stand p l e ({ frames := 0, cells := 0, slots := 0, locals := 0 } : Room) s m #[(.ref a), .null] below meth c s₁ [] 0 0 := Stand.of_body Bd
  have e0 : s₁.heap = h0 := by rw [← hh, Bd.state]; rfl
  have N0 := Fr.nil n0
  refine own_begin (own_eqN_ef m a) ?_
  show Ends p.tables e below (s₁.setTop (mkF m 0 #[.val (.ref a), .val .null, .unset] [])) _
  refine s_aloadN (pc' := 1) X0.here hx (hb hby own_d13_0) rfl rfl rfl ?_
  refine own_via (fun t_ k_ => Jvm.Stand.instanceofNull X0 hx (g := (mkF m 1 #[.val (.ref a), .val .null, .unset] [.null])) rfl (rest := []) rfl (hb hby own_d13_1) t_ k_) ?_
  show Ends p.tables e below (s₁.setTop (mkF m 4 #[.val (.ref a), .val .null, .unset] [(.int (0 : Int32))])) _
  have hk1 : (0 : Int32) = (0 : Int32) := rfl
  refine s_ifYes (pc' := 44) X0.here hx (hb hby own_d13_4) ((if0 _ _).trans (teq hk1).1) (by decide) (by decide) ?_
  refine s_iconst (pc' := 45) X0.here hx (v := (0 : Int32)) (hb hby own_d13_44) rfl rfl ?_
  obtain ⟨fs, hr, hrun, hended, hW, hsame⟩ := X0.leave (v := some (.int (0 : Int32))) (fun h => by rw [Bd.returns] at h; cases h)
  refine ⟨_, _, retN X0 hx (t := .boolean) Bd.returns (by simp) (hb hby own_d13_45) hr, hrun, hended, _, _, rfl, ?_, ⟨_, rfl⟩, hW, hsame.mono (by decide) (by decide)⟩
  show own_eqN_Q Z a h0 n0 _ s₁.heap _
  rw [e0]
  exact ⟨rfl, N0, rfl⟩
theorem own_eqS_ef (m : MethodId) (a : Addr) (a' : Addr) : entryFrame m #[(.ref a), (.ref a')] 3 = mkF m 0 #[.val (.ref a), .val (.ref a'), .unset] [] := by first | (simp [entryFrame, mkF, argsToLocals, Value.category]; done) | rfl
def own_eqS_Q (Z : State) (a : Addr) (a' : Addr) (h0 : Heap) (n0 : Nat) (v : Option Value) (h : Heap) (L : List Loc) : Prop := v = some (.int 0) ∧ Fr n0 L ∧ h = h0
set_option maxRecDepth 65536 in
set_option maxHeartbeats 40000000 in
theorem own_eqS (l : Launch) (Z : State) (a0 : Array Value) (hw : ∀ d ∈ tables_1, d.before a0 Z = true) (ws : List Jvm.Cond) (a : Addr) (a' : Addr) (h0 : Heap) (n0 : Nat) (Z0 : n0 ≤ h0.size) (E_s : Exa Z h0 a' "java/lang/String") :
    MetFree l (⟨"com/example/vestbook/vestbook/AccountId", "equals", "(Ljava/lang/Object;)Z"⟩ : MethodName) (head1 (Jvm.Cond.code (⟨"com/example/vestbook/vestbook/AccountId", "equals", "(Ljava/lang/Object;)Z"⟩ : MethodName) prog_1_method_4_code 3 (some .boolean) :: ws) ({ frames := 0, cells := 0, slots := 0, locals := 0 } : Room)) (fun as_ U => as_ = #[(.ref a), (.ref a')] ∧ Z.Warmed39 U.vm ∧ U.heap = h0) (fun _ _ _ _ _ => True) (fun _ U_ o_ V_ => ∃ v_ L_, o_ = .returned v_ ∧ own_eqS_Q Z a a' h0 n0 v_ V_.heap L_ ∧ FrameEnd U_ o_ V_ L_ ({ frames := 0, cells := 0, slots := 0, locals := 0 } : Room).cells ({ frames := 0, cells := 0, slots := 0, locals := 0 } : Room).slots) := by
  refine MetFree.of_bodySF (plainFor_of_name own_pn5) hisR ?_
  intro p e s m args below meth c s₁ Bd hml0 hP hK
  obtain ⟨rfl, hZ, hh⟩ := hP
  have hx := Bd.exec
  have hby := Bd.bytes
  have hml : c.maxLocals = 3 := hml0
  have hown : s.vm.findClass "com/example/vestbook/vestbook/AccountId" = some m.cls := findClass_of_methodNamed Bd.named
  have hnm := (name_of_methodNamed Bd.named Bd.method).1
  have X0 : Stand p l e ({ frames := 0, cells := 0, slots := 0, locals := 0 } : Room) s m #[(.ref a), (.ref a')] below meth c s₁ [] 0 0 := Stand.of_body Bd
  have e0 : s₁.heap = h0 := by rw [← hh, Bd.state]; rfl
  have N0 := Fr.nil n0
  refine own_begin (own_eqS_ef m a a') ?_
  show Ends p.tables e below (s₁.setTop (mkF m 0 #[.val (.ref a), .val (.ref a'), .unset] [])) _
  refine s_aloadN (pc' := 1) X0.here hx (hb hby own_d13_0) rfl rfl rfl ?_
  obtain ⟨Tq, Xq, eq_, sq⟩ := Jvm.RoadKit.instNo X0 hx hZ hown (hw _ (List.mem_of_getElem? (i := 67) rfl)) e0 E_s (own_no (hw _ (List.mem_of_getElem? (i := 79) rfl)) (hw _ (List.mem_of_getElem? (i := 80) rfl)) (hw _ (List.mem_of_getElem? (i := 1) rfl)) (by decide) (by decide)) (g := (mkF m 1 #[.val (.ref a), .val (.ref a'), .unset] [(.ref a')])) rfl rfl (hb hby own_d13_1)
  refine own_via (sq) ?_
  show Ends p.tables e below (Tq.setTop (mkF m 4 #[.val (.ref a), .val (.ref a'), .unset] [(.int (0 : Int32))])) _
  have hk1 : (0 : Int32) = (0 : Int32) := rfl
  refine s_ifYes (pc' := 44) Xq.here hx (hb hby own_d13_4) ((if0 _ _).trans (teq hk1).1) (by decide) (by decide) ?_
  refine s_iconst (pc' := 45) Xq.here hx (v := (0 : Int32)) (hb hby own_d13_44) rfl rfl ?_
  obtain ⟨fs, hr, hrun, hended, hW, hsame⟩ := Xq.leave (v := some (.int (0 : Int32))) (fun h => by rw [Bd.returns] at h; cases h)
  refine ⟨_, _, retN Xq hx (t := .boolean) Bd.returns (by simp) (hb hby own_d13_45) hr, hrun, hended, _, _, rfl, ?_, ⟨_, rfl⟩, hW, hsame.mono (by decide) (by decide)⟩
  show own_eqS_Q Z a a' h0 n0 _ Tq.heap _
  rw [eq_]
  exact ⟨rfl, N0, rfl⟩
theorem own_d13_7 : decode prog_1_method_4_code 7 = .ok (.aload_n 1, 1) := by decide +kernel
theorem own_d13_8 : decode prog_1_method_4_code 8 = .ok (.checkcast 8, 3) := by decide +kernel
theorem own_d13_11 : decode prog_1_method_4_code 11 = .ok (.astore_n 2, 1) := by decide +kernel
theorem own_d13_12 : decode prog_1_method_4_code 12 = .ok (.aload_n 0, 1) := by decide +kernel
theorem own_d13_13 : decode prog_1_method_4_code 13 = .ok (.getfield 7, 3) := by decide +kernel
theorem own_d13_16 : decode prog_1_method_4_code 16 = .ok (.aload_n 2, 1) := by decide +kernel
theorem own_d13_17 : decode prog_1_method_4_code 17 = .ok (.getfield 7, 3) := by decide +kernel
theorem own_d13_20 : decode prog_1_method_4_code 20 = .ok (.invokevirtual 33, 3) := by decide +kernel
theorem own_pd9 : parseMethodDescriptor "(Ljava/lang/Object;)Z" = some ⟨[(.object "java/lang/Object")], some .boolean⟩ := by decide +kernel
theorem own_d13_23 : decode prog_1_method_4_code 23 = .ok (.ifCond .eq 21, 3) := by decide +kernel
theorem own_d13_26 : decode prog_1_method_4_code 26 = .ok (.aload_n 0, 1) := by decide +kernel
theorem own_d13_27 : decode prog_1_method_4_code 27 = .ok (.getfield 13, 3) := by decide +kernel
theorem own_d13_30 : decode prog_1_method_4_code 30 = .ok (.aload_n 2, 1) := by decide +kernel
theorem own_d13_31 : decode prog_1_method_4_code 31 = .ok (.getfield 13, 3) := by decide +kernel
theorem own_d13_34 : decode prog_1_method_4_code 34 = .ok (.invokevirtual 33, 3) := by decide +kernel
theorem own_d13_37 : decode prog_1_method_4_code 37 = .ok (.ifCond .eq 7, 3) := by decide +kernel
theorem own_d13_40 : decode prog_1_method_4_code 40 = .ok (.iconst 1, 1) := by decide +kernel
theorem own_d13_41 : decode prog_1_method_4_code 41 = .ok (.goto 4, 3) := by decide +kernel
theorem own_eqA_ef (m : MethodId) (a : Addr) (a' : Addr) (cs : Int32) (s1 : Addr) (b1 : Addr) (k1 : ClassId) (z1 : Int32) (l1 : List Value) (s2 : Addr) (b2 : Addr) (k2 : ClassId) (z2 : Int32) (l2 : List Value) (s3 : Addr) (b3 : Addr) (k3 : ClassId) (z3 : Int32) (l3 : List Value) (s4 : Addr) (b4 : Addr) (k4 : ClassId) (z4 : Int32) (l4 : List Value) (r1 : Int32) (r2 : Int32) : entryFrame m #[(.ref a), (.ref a')] 3 = mkF m 0 #[.val (.ref a), .val (.ref a'), .unset] [] := by first | (simp [entryFrame, mkF, argsToLocals, Value.category]; done) | rfl
def own_eqA_Q (Z : State) (a : Addr) (a' : Addr) (cs : Int32) (s1 : Addr) (b1 : Addr) (k1 : ClassId) (z1 : Int32) (l1 : List Value) (s2 : Addr) (b2 : Addr) (k2 : ClassId) (z2 : Int32) (l2 : List Value) (s3 : Addr) (b3 : Addr) (k3 : ClassId) (z3 : Int32) (l3 : List Value) (s4 : Addr) (b4 : Addr) (k4 : ClassId) (z4 : Int32) (l4 : List Value) (r1 : Int32) (r2 : Int32) (h0 : Heap) (n0 : Nat) (v : Option Value) (h : Heap) (L : List Loc) : Prop := v = some (.int (if r1 = 0 then 0 else r2)) ∧ Fr n0 L ∧ h = h0
set_option maxRecDepth 65536 in
set_option maxHeartbeats 40000000 in
theorem own_eqA (l : Launch) (Z : State) (a0 : Array Value) (hw : ∀ d ∈ tables_1, d.before a0 Z = true) (ws : List Jvm.Cond) (a : Addr) (a' : Addr) (cs : Int32) (s1 : Addr) (b1 : Addr) (k1 : ClassId) (z1 : Int32) (l1 : List Value) (s2 : Addr) (b2 : Addr) (k2 : ClassId) (z2 : Int32) (l2 : List Value) (s3 : Addr) (b3 : Addr) (k3 : ClassId) (z3 : Int32) (l3 : List Value) (s4 : Addr) (b4 : Addr) (k4 : ClassId) (z4 : Int32) (l4 : List Value) (r1 : Int32) (r2 : Int32) (h0 : Heap) (n0 : Nat) (Z0 : n0 ≤ h0.size) (O0 : Old Z n0 h0) (S_cs : Sta Z Z.heap "java/lang/String" "COMPACT_STRINGS" "Z" (.int cs)) (hcs : ¬ cs = (0 : Int32)) (E_a' : Exa Z h0 a' "com/example/vestbook/vestbook/AccountId") (F_p1 : Fld Z h0 a "com/example/vestbook/vestbook/AccountId" "participant" "Ljava/lang/String;" (.ref s1)) (F_p2 : Fld Z h0 a "com/example/vestbook/vestbook/AccountId" "account" "Ljava/lang/String;" (.ref s2)) (F_p3 : Fld Z h0 a' "com/example/vestbook/vestbook/AccountId" "participant" "Ljava/lang/String;" (.ref s3)) (F_p4 : Fld Z h0 a' "com/example/vestbook/vestbook/AccountId" "account" "Ljava/lang/String;" (.ref s4)) (E_s1 : Exa Z h0 s1 "java/lang/String") (F_c1 : Fld Z h0 s1 "java/lang/String" "coder" "B" (.int (0 : Int32))) (F_v1 : Fld Z h0 s1 "java/lang/String" "value" "[B" (.ref b1)) (V_b1 : Arv Z h0 b1 k1 .byte z1 l1 (.int (0 : Int32))) (E_s2 : Exa Z h0 s2 "java/lang/String") (F_c2 : Fld Z h0 s2 "java/lang/String" "coder" "B" (.int (0 : Int32))) (F_v2 : Fld Z h0 s2 "java/lang/String" "value" "[B" (.ref b2)) (V_b2 : Arv Z h0 b2 k2 .byte z2 l2 (.int (0 : Int32))) (E_s3 : Exa Z h0 s3 "java/lang/String") (F_c3 : Fld Z h0 s3 "java/lang/String" "coder" "B" (.int (0 : Int32))) (F_v3 : Fld Z h0 s3 "java/lang/String" "value" "[B" (.ref b3)) (V_b3 : Arv Z h0 b3 k3 .byte z3 l3 (.int (0 : Int32))) (E_s4 : Exa Z h0 s4 "java/lang/String") (F_c4 : Fld Z h0 s4 "java/lang/String" "coder" "B" (.int (0 : Int32))) (F_v4 : Fld Z h0 s4 "java/lang/String" "value" "[B" (.ref b4)) (V_b4 : Arv Z h0 b4 k4 .byte z4 l4 (.int (0 : Int32))) (r01 : r1 = 0 ∨ r1 = 1) (hr1 : r1 = 1 ↔ own_same_ z1 l1 z3 l3) (r02 : r2 = 0 ∨ r2 = 1) (hr2 : r2 = 1 ↔ own_same_ z2 l2 z4 l4) :
    MetFree l (⟨"com/example/vestbook/vestbook/AccountId", "equals", "(Ljava/lang/Object;)Z"⟩ : MethodName) (head1 (Jvm.Cond.code (⟨"com/example/vestbook/vestbook/AccountId", "equals", "(Ljava/lang/Object;)Z"⟩ : MethodName) prog_1_method_4_code 3 (some .boolean) :: ws) ({ frames := 2, cells := 0, slots := 0, locals := 28 } : Room)) (fun as_ U => as_ = #[(.ref a), (.ref a')] ∧ Z.Warmed39 U.vm ∧ U.heap = h0) (fun _ _ _ _ _ => True) (fun _ U_ o_ V_ => ∃ v_ L_, o_ = .returned v_ ∧ own_eqA_Q Z a a' cs s1 b1 k1 z1 l1 s2 b2 k2 z2 l2 s3 b3 k3 z3 l3 s4 b4 k4 z4 l4 r1 r2 h0 n0 v_ V_.heap L_ ∧ FrameEnd U_ o_ V_ L_ ({ frames := 2, cells := 0, slots := 0, locals := 28 } : Room).cells ({ frames := 2, cells := 0, slots := 0, locals := 28 } : Room).slots) := by
  refine MetFree.of_bodySF (plainFor_of_name own_pn5) hisR ?_
  intro p e s m args below meth c s₁ Bd hml0 hP hK
  obtain ⟨rfl, hZ, hh⟩ := hP
  have hx := Bd.exec
  have hby := Bd.bytes
  have hml : c.maxLocals = 3 := hml0
  have hown : s.vm.findClass "com/example/vestbook/vestbook/AccountId" = some m.cls := findClass_of_methodNamed Bd.named
  have hnm := (name_of_methodNamed Bd.named Bd.method).1
  have X0 : Stand p l e ({ frames := 2, cells := 0, slots := 0, locals := 28 } : Room) s m #[(.ref a), (.ref a')] below meth c s₁ [] 0 0 := Stand.of_body Bd
  have e0 : s₁.heap = h0 := by rw [← hh, Bd.state]; rfl
  have N0 := Fr.nil n0
  refine own_begin (own_eqA_ef m a a' cs s1 b1 k1 z1 l1 s2 b2 k2 z2 l2 s3 b3 k3 z3 l3 s4 b4 k4 z4 l4 r1 r2) ?_
  show Ends p.tables e below (s₁.setTop (mkF m 0 #[.val (.ref a), .val (.ref a'), .unset] [])) _
  refine s_aloadN (pc' := 1) X0.here hx (hb hby own_d13_0) rfl rfl rfl ?_
  refine s_instY (pc' := 4) X0 hx hZ hown (hw _ (List.mem_of_getElem? (i := 67) rfl)) e0 (Ins.self E_a') (hb hby own_d13_1) rfl fun T1 X1 e1 => ?_
  have hk2 : ¬ ((1 : Int32) = (0 : Int32)) := by decide
  refine s_ifNo (pc' := 7) X1.here hx (hb hby own_d13_4) ((if0 _ _).trans (feq hk2).1) rfl ?_
  refine s_aloadN (pc' := 8) X1.here hx (hb hby own_d13_7) rfl rfl rfl ?_
  refine s_castY (pc' := 11) X1 hx hZ hown (hw _ (List.mem_of_getElem? (i := 67) rfl)) e1 (Ins.self E_a') (hb hby own_d13_8) rfl fun T3 X3 e3 => ?_
  refine s_astoreN (pc' := 12) X3.here hx (l' := #[.val (.ref a), .val (.ref a'), .val (.ref a')]) (hb hby own_d13_11) rfl rfl rfl ?_
  refine s_aloadN (pc' := 13) X3.here hx (hb hby own_d13_12) rfl rfl rfl ?_
  refine s_getF (pc' := 16) X3 hx hZ hown (host := "") (Or.inl (hw _ (List.mem_of_getElem? (i := 55) rfl))) Via.refl e3 F_p1 (hb hby own_d13_13) rfl fun T4 X4 e4 => ?_
  refine s_aloadN (pc' := 17) X4.here hx (hb hby own_d13_16) rfl rfl rfl ?_
  refine s_getF (pc' := 20) X4 hx hZ hown (host := "") (Or.inl (hw _ (List.mem_of_getElem? (i := 55) rfl))) Via.refl e4 F_p3 (hb hby own_d13_17) rfl fun T5 X5 e5 => ?_
  refine s_callV (pc' := 23) (W := 0) X5 hx hZ  hown (hw _ (List.mem_of_getElem? (i := 69) rfl)) (hw _ (List.mem_of_getElem? (i := 70) rfl)) (hw _ (List.mem_of_getElem? (i := 13) rfl)) (hw _ (List.mem_of_getElem? (i := 73) rfl)) (hw _ (List.mem_of_getElem? (i := 72) rfl)) (hw _ (List.mem_of_getElem? (i := 71) rfl)) (by decide) e5 E_s1 (own_seq l Z a0 hw [] s1 s3 cs b1 b3 k1 z1 l1 k3 z3 l3 r1 h0 n0 Z0 O0 S_cs hcs F_c1 F_v1 F_c3 F_v3 E_s3 V_b1 V_b3 r01 hr1) (by rw [hml]; rfl) [(.ref s3)] [] rfl (lenOf own_pd9 rfl) rfl (Nat.le_of_eq rfl) (by decide) (by decide) (by decide) (by decide) rfl (hb hby own_d13_20) fun T6 v6 Lc6 X6 hQ6 => ?_
  obtain ⟨rfl, Nq6, eh6⟩ := hQ6
  have N6 := Fr.app N0 Nq6
  show Ends p.tables e below (T6.setTop (mkF m 23 #[.val (.ref a), .val (.ref a'), .val (.ref a')] [(.int r1)])) _
  by_cases hq1 : r1 = (0 : Int32)
  · refine s_ifYes (pc' := 44) X6.here hx (hb hby own_d13_23) ((if0 _ _).trans (teq hq1).1) (by decide) (by decide) ?_
    refine s_iconst (pc' := 45) X6.here hx (v := (0 : Int32)) (hb hby own_d13_44) rfl rfl ?_
    obtain ⟨fs, hr, hrun, hended, hW, hsame⟩ := X6.leave (v := some (.int (0 : Int32))) (fun h => by rw [Bd.returns] at h; cases h)
    refine ⟨_, _, retN X6 hx (t := .boolean) Bd.returns (by simp) (hb hby own_d13_45) hr, hrun, hended, _, _, rfl, ?_, ⟨_, rfl⟩, hW, hsame.mono (by decide) (by decide)⟩
    show own_eqA_Q Z a a' cs s1 b1 k1 z1 l1 s2 b2 k2 z2 l2 s3 b3 k3 z3 l3 s4 b4 k4 z4 l4 r1 r2 h0 n0 _ T6.heap _
    rw [eh6]
    exact ⟨by rw [if_pos hq1] <;> rfl, N6, rfl⟩
  · refine s_ifNo (pc' := 26) X6.here hx (hb hby own_d13_23) ((if0 _ _).trans (feq hq1).1) rfl ?_
    refine s_aloadN (pc' := 27) X6.here hx (hb hby own_d13_26) rfl rfl rfl ?_
    refine s_getF (pc' := 30) X6 hx hZ hown (host := "") (Or.inl (hw _ (List.mem_of_getElem? (i := 57) rfl))) Via.refl eh6 F_p2 (hb hby own_d13_27) rfl fun T7 X7 e7 => ?_
    refine s_aloadN (pc' := 31) X7.here hx (hb hby own_d13_30) rfl rfl rfl ?_
    refine s_getF (pc' := 34) X7 hx hZ hown (host := "") (Or.inl (hw _ (List.mem_of_getElem? (i := 57) rfl))) Via.refl e7 F_p4 (hb hby own_d13_31) rfl fun T8 X8 e8 => ?_
    refine s_callV (pc' := 37) (W := 0) X8 hx hZ  hown (hw _ (List.mem_of_getElem? (i := 69) rfl)) (hw _ (List.mem_of_getElem? (i := 70) rfl)) (hw _ (List.mem_of_getElem? (i := 13) rfl)) (hw _ (List.mem_of_getElem? (i := 73) rfl)) (hw _ (List.mem_of_getElem? (i := 72) rfl)) (hw _ (List.mem_of_getElem? (i := 71) rfl)) (by decide) e8 E_s2 (own_seq l Z a0 hw [] s2 s4 cs b2 b4 k2 z2 l2 k4 z4 l4 r2 h0 n0 Z0 O0 S_cs hcs F_c2 F_v2 F_c4 F_v4 E_s4 V_b2 V_b4 r02 hr2) (by rw [hml]; rfl) [(.ref s4)] [] rfl (lenOf own_pd9 rfl) rfl (Nat.le_of_eq rfl) (by decide) (by decide) (by decide) (by decide) rfl (hb hby own_d13_34) fun T9 v9 Lc9 X9 hQ9 => ?_
    obtain ⟨rfl, Nq9, eh9⟩ := hQ9
    have N9 := Fr.app N6 Nq9
    show Ends p.tables e below (T9.setTop (mkF m 37 #[.val (.ref a), .val (.ref a'), .val (.ref a')] [(.int r2)])) _
    by_cases hq2 : r2 = (0 : Int32)
    · refine s_ifYes (pc' := 44) X9.here hx (hb hby own_d13_37) ((if0 _ _).trans (teq hq2).1) (by decide) (by decide) ?_
      refine s_iconst (pc' := 45) X9.here hx (v := (0 : Int32)) (hb hby own_d13_44) rfl rfl ?_
      obtain ⟨fs, hr, hrun, hended, hW, hsame⟩ := X9.leave (v := some (.int (0 : Int32))) (fun h => by rw [Bd.returns] at h; cases h)
      refine ⟨_, _, retN X9 hx (t := .boolean) Bd.returns (by simp) (hb hby own_d13_45) hr, hrun, hended, _, _, rfl, ?_, ⟨_, rfl⟩, hW, hsame.mono (by decide) (by decide)⟩
      show own_eqA_Q Z a a' cs s1 b1 k1 z1 l1 s2 b2 k2 z2 l2 s3 b3 k3 z3 l3 s4 b4 k4 z4 l4 r1 r2 h0 n0 _ T9.heap _
      rw [eh9]
      exact ⟨by rw [if_neg hq1, hq2] <;> rfl, N9, rfl⟩
    · refine s_ifNo (pc' := 40) X9.here hx (hb hby own_d13_37) ((if0 _ _).trans (feq hq2).1) rfl ?_
      refine s_iconst (pc' := 41) X9.here hx (v := (1 : Int32)) (hb hby own_d13_40) rfl rfl ?_
      refine s_goto (pc' := 45) X9.here hx (hb hby own_d13_41) (by decide) (by decide) ?_
      obtain ⟨fs, hr, hrun, hended, hW, hsame⟩ := X9.leave (v := some (.int (1 : Int32))) (fun h => by rw [Bd.returns] at h; cases h)
      refine ⟨_, _, retN X9 hx (t := .boolean) Bd.returns (by simp) (hb hby own_d13_45) hr, hrun, hended, _, _, rfl, ?_, ⟨_, rfl⟩, hW, hsame.mono (by decide) (by decide)⟩
      show own_eqA_Q Z a a' cs s1 b1 k1 z1 l1 s2 b2 k2 z2 l2 s3 b3 k3 z3 l3 s4 b4 k4 z4 l4 r1 r2 h0 n0 _ T9.heap _
      rw [eh9]
      exact ⟨by rw [if_neg hq1, r02.resolve_left hq2] <;> rfl, N9, rfl⟩
theorem own_pd10 : parseMethodDescriptor "(I)Ljava/lang/String;" = some ⟨[.int], some (.object "java/lang/String")⟩ := by decide +kernel
theorem own_pd11 : parseMethodDescriptor "(Ljava/lang/String;Ljava/lang/String;)V" = some ⟨[(.object "java/lang/String"), (.object "java/lang/String")], none⟩ := by decide +kernel
theorem own_pd12 : parseMethodDescriptor "(II)Z" = some ⟨[.int, .int], some .boolean⟩ := by decide +kernel
theorem own_rm0_ef (m : MethodId) (p0 : Int32) (p1 : Int32) (p2 : Int32) (p3 : Int32) (p4 : Int32) (cs : Int32) : entryFrame m #[(.int p0), (.int p1), (.int p2), (.int p3), (.int p4)] maxLocals = mkF m 0 #[.val (.int p0), .val (.int p1), .val (.int p2), .val (.int p3), .val (.int p4), .unset, .unset, .unset, .unset, .unset, .unset] [] := by first | (simp [entryFrame, mkF, argsToLocals, Value.category, maxLocals]; done) | rfl
def own_rm0_Q (Z : State) (p0 : Int32) (p1 : Int32) (p2 : Int32) (p3 : Int32) (p4 : Int32) (cs : Int32) (h0 : Heap) (n0 : Nat) (v : Option Value) (h : Heap) (L : List Loc) : Prop := v = some (.int 1) ∧ Fr n0 L
set_option maxRecDepth 65536 in
set_option maxHeartbeats 40000000 in
theorem own_rm0 (l : Launch) (Z : State) (a0 : Array Value) (hw : ∀ d ∈ tables_1, d.before a0 Z = true) (ws : List Jvm.Cond) (p0 : Int32) (p1 : Int32) (p2 : Int32) (p3 : Int32) (p4 : Int32) (cs : Int32) (h0 : Heap) (n0 : Nat) (Z0 : n0 ≤ h0.size) (O0 : Old Z n0 h0) (S_cs : Sta Z Z.heap "java/lang/String" "COMPACT_STRINGS" "Z" (.int cs)) (hcs : ¬ cs = (0 : Int32)) :
    MetFree l x (head1 (Jvm.Cond.code x code maxLocals ret :: ws) room_1) (fun as_ U => as_ = #[(.int p0), (.int p1), (.int p2), (.int p3), (.int p4)] ∧ Z.Warmed39 U.vm ∧ U.heap = h0 ∧ CHv Z consts_1 U.vm h0 ∧ ∀ x_ ∈ ([] : List Addr), Safe Z consts_1 U.vm h0 x_) (fun _ _ _ _ _ => True) (fun _ U_ o_ V_ => ∃ v_ L_, o_ = .returned v_ ∧ own_rm0_Q Z p0 p1 p2 p3 p4 cs h0 n0 v_ V_.heap L_ ∧ CHr Z consts_1 U_.vm U_.heap V_.vm V_.heap ∧ ReturnedEndW U_ o_ V_ L_ room_1.cells room_1.slots) := by
  refine MetFree.of_bodySF (plainFor_of_name own_pn3) hisR ?_
  intro p e s m args below meth c s₁ Bd hml0 hP hK
  obtain ⟨rfl, hZ, hh, HC0, hsf0⟩ := hP
  have hx := Bd.exec
  have hby := Bd.bytes
  have hml : c.maxLocals = 11 := hml0
  have hown : s.vm.findClass "com/example/vestbook/vestbook/AccountIdEqualsPinLaw" = some m.cls := findClass_of_methodNamed Bd.named
  have hnm := (name_of_methodNamed Bd.named Bd.method).1
  have X0 : Stand p l e room_1 s m #[(.int p0), (.int p1), (.int p2), (.int p3), (.int p4)] below meth c s₁ [] 0 0 := Stand.of_body Bd
  have e0 : s₁.heap = h0 := by rw [← hh, Bd.state]; rfl
  have N0 := Fr.nil n0
  refine own_begin (own_rm0_ef m p0 p1 p2 p3 p4 cs) ?_
  show Ends p.tables e below (s₁.setTop (mkF m 0 #[.val (.int p0), .val (.int p1), .val (.int p2), .val (.int p3), .val (.int p4), .unset, .unset, .unset, .unset, .unset, .unset] [])) _
  have HR0 : CHr Z consts_1 s.vm h0 s.vm h0 := CHr.refl HC0
  have X0w : Stand p l e room_1 (s.setVm s.vm) m #[(.int p0), (.int p1), (.int p2), (.int p3), (.int p4)] below meth c s₁ [] 0 0 := X0
  have hS : s.Since s.vm 0 := (State.WarmedH.refl s).since 0
  have hk : 0 ≤ h0.size := Nat.zero_le _
  refine s_iload (pc' := 2) X0w.here hx (hb hby at_0) rfl rfl ?_
  refine s_iconst (pc' := 3) X0w.here hx (v := (1 : Int32)) (hb hby at_2) rfl rfl ?_
  refine s_iand (pc' := 4) X0w.here hx (hb hby at_3) rfl ?_
  refine own_join (α := Int32) (fun u => s₁.setTop (mkF m 14 #[.val (.int p0), .val (.int p1), .val (.int p2), .val (.int p3), .val (.int p4), .val (.int u), .unset, .unset, .unset, .unset, .unset] [])) (fun u => True) (fun key => ?_) ?_
  · by_cases hb1 : (p4 &&& (1 : Int32)) = (0 : Int32)
    · refine s_ifYes (pc' := 11) X0w.here hx (hb hby at_4) ((if0 _ _).trans (teq hb1).1) (by decide) (by decide) ?_
      refine s_iloadN (pc' := 12) X0w.here hx (hb hby at_11) rfl rfl ?_
      refine s_istore (pc' := 14) X0w.here hx (l' := #[.val (.int p0), .val (.int p1), .val (.int p2), .val (.int p3), .val (.int p4), .val (.int p2), .unset, .unset, .unset, .unset, .unset]) (hb hby at_12) rfl rfl ?_
      exact key (p2) trivial
    · refine s_ifNo (pc' := 7) X0w.here hx (hb hby at_4) ((if0 _ _).trans (feq hb1).1) rfl ?_
      refine s_iloadN (pc' := 8) X0w.here hx (hb hby at_7) rfl rfl ?_
      refine s_goto (pc' := 12) X0w.here hx (hb hby at_8) (by decide) (by decide) ?_
      refine s_istore (pc' := 14) X0w.here hx (l' := #[.val (.int p0), .val (.int p1), .val (.int p2), .val (.int p3), .val (.int p4), .val (.int p0), .unset, .unset, .unset, .unset, .unset]) (hb hby at_12) rfl rfl ?_
      exact key (p0) trivial
  · rintro u hT1
    try dsimp only at hT1
    try dsimp only
    show Ends p.tables e below (s₁.setTop (mkF m 14 #[.val (.int p0), .val (.int p1), .val (.int p2), .val (.int p3), .val (.int p4), .val (.int u), .unset, .unset, .unset, .unset, .unset] [])) _
    refine s_iload (pc' := 16) X0w.here hx (hb hby at_14) rfl rfl ?_
    refine s_iconst (pc' := 17) X0w.here hx (v := (2 : Int32)) (hb hby at_16) rfl rfl ?_
    refine s_iand (pc' := 18) X0w.here hx (hb hby at_17) rfl ?_
    refine own_join (α := Int32) (fun v => s₁.setTop (mkF m 28 #[.val (.int p0), .val (.int p1), .val (.int p2), .val (.int p3), .val (.int p4), .val (.int u), .val (.int v), .unset, .unset, .unset, .unset] [])) (fun v => True) (fun key => ?_) ?_
    · by_cases hb2 : (p4 &&& (2 : Int32)) = (0 : Int32)
      · refine s_ifYes (pc' := 25) X0w.here hx (hb hby at_18) ((if0 _ _).trans (teq hb2).1) (by decide) (by decide) ?_
        refine s_iloadN (pc' := 26) X0w.here hx (hb hby at_25) rfl rfl ?_
        refine s_istore (pc' := 28) X0w.here hx (l' := #[.val (.int p0), .val (.int p1), .val (.int p2), .val (.int p3), .val (.int p4), .val (.int u), .val (.int p3), .unset, .unset, .unset, .unset]) (hb hby at_26) rfl rfl ?_
        exact key (p3) trivial
      · refine s_ifNo (pc' := 21) X0w.here hx (hb hby at_18) ((if0 _ _).trans (feq hb2).1) rfl ?_
        refine s_iloadN (pc' := 22) X0w.here hx (hb hby at_21) rfl rfl ?_
        refine s_goto (pc' := 26) X0w.here hx (hb hby at_22) (by decide) (by decide) ?_
        refine s_istore (pc' := 28) X0w.here hx (l' := #[.val (.int p0), .val (.int p1), .val (.int p2), .val (.int p3), .val (.int p4), .val (.int u), .val (.int p1), .unset, .unset, .unset, .unset]) (hb hby at_26) rfl rfl ?_
        exact key (p1) trivial
    · rintro v hT2
      try dsimp only at hT2
      try dsimp only
      show Ends p.tables e below (s₁.setTop (mkF m 28 #[.val (.int p0), .val (.int p1), .val (.int p2), .val (.int p3), .val (.int p4), .val (.int u), .val (.int v), .unset, .unset, .unset, .unset] [])) _
      refine s_iload (pc' := 30) X0w.here hx (hb hby at_28) rfl rfl ?_
      refine s_iconst (pc' := 31) X0w.here hx (v := (2 : Int32)) (hb hby at_30) rfl rfl ?_
      refine s_iushr (pc' := 32) X0w.here hx (hb hby at_31) rfl ?_
      refine s_iconst (pc' := 33) X0w.here hx (v := (3 : Int32)) (hb hby at_32) rfl rfl ?_
      refine s_iand (pc' := 34) X0w.here hx (hb hby at_33) rfl ?_
      refine s_istore (pc' := 36) X0w.here hx (l' := #[.val (.int p0), .val (.int p1), .val (.int p2), .val (.int p3), .val (.int p4), .val (.int u), .val (.int v), .val (.int (((p4.toUInt32 >>> ((2 : Int32) &&& 31).toUInt32).toInt32) &&& (3 : Int32))), .unset, .unset, .unset]) (hb hby at_34) rfl rfl ?_
      obtain ⟨kd, hkd⟩ : ∃ z : Int32, z = (((p4.toUInt32 >>> ((2 : Int32) &&& 31).toUInt32).toInt32) &&& (3 : Int32)) := ⟨_, rfl⟩
      rw [← hkd]
      refine s_newO (pc' := 39) X0w hx hZ hown (hw _ (List.mem_of_getElem? (i := 0) rfl)) (hw _ (List.mem_of_getElem? (i := 1) rfl)) (hw _ (List.mem_of_getElem? (i := 2) rfl)) e0 (hb hby at_36) (by decide) (by decide) rfl fun T1 hp1 X1 e1 E1 a1 gq1 A1 D1 => ?_
      have g_a1 : n0 ≤ a1 := Nat.le_trans Z0 (Nat.le_of_eq gq1.symm)
      have sf2 := Safe.ext E1 HC0 (Safe.new (Nat.le_of_eq gq1.symm))
      have HR3 := CHr.trans HR0 (CHr.ext E1 HC0)
      have HC4 := CHv.ext E1 HC0
      have O5 := O0.ext E1
      replace hk := Nat.le_trans hk E1.1
      have Z6 : n0 ≤ hp1.size := Nat.le_trans Z0 E1.1
      have F7 : Fld Z hp1 a1 "com/example/vestbook/vestbook/AccountId" "participant" "Ljava/lang/String;" .null := D1 (Or.inr (hw _ (List.mem_of_getElem? (i := 56) rfl))) (ty := (.object "java/lang/String")) (by decide)
      have F8 : Fld Z hp1 a1 "com/example/vestbook/vestbook/AccountId" "account" "Ljava/lang/String;" .null := D1 (Or.inr (hw _ (List.mem_of_getElem? (i := 58) rfl))) (ty := (.object "java/lang/String")) (by decide)
      refine s_dup (pc' := 40) X1.here hx (hb hby at_39) rfl rfl ?_
      refine s_iloadN (pc' := 41) X1.here hx (hb hby at_40) rfl rfl ?_
      refine s_callSH (pc' := 44) (W := 2) X1 hx hZ hS hk (own_EW hw) HC4  hown (hw _ (List.mem_of_getElem? (i := 3) rfl)) (hw _ (List.mem_of_getElem? (i := 4) rfl)) (hw _ (List.mem_of_getElem? (i := 5) rfl)) (hw _ (List.mem_of_getElem? (i := 6) rfl)) (by decide) e1 (own_text l Z a0 hw [] p0 cs hp1 n0 Z6 O5 S_cs hcs) own_safe0 (by rw [hml]; rfl) [(.int p0)] [(.ref a1), (.ref a1)] rfl (lenOf own_pd10 rfl) rfl (Nat.le_of_eq rfl) (by decide) (by decide) (by decide) (by decide) rfl (hb hby at_41) fun T9 v9 Lc9 X9 hS hZ hown hr9 hQ9 => ?_
      obtain ⟨s1, b1, k1, rfl, Nq9, Kq9, szs1, Es1, Fc1, Fv1, Vb1⟩ := hQ9
      have g_s1 : n0 ≤ s1 := Nat.le_trans Z6 szs1
      have ne10 : a1 ≠ s1 := Nat.ne_of_lt (Nat.lt_of_lt_of_le A1.lt szs1)
      have sf11 := CHr.safe hr9 A1.lt sf2
      have HR12 := CHr.trans HR3 (hr9)
      have HC13 := hr9.1
      have O14 := O5.keep Kq9 all0
      have N9 := Fr.app N0 Nq9
      have hk : T9.heap.size ≤ T9.heap.size := Nat.le_refl _
      have f15 := A1.keep Kq9
      have f16 := F7.keep Kq9 nin0
      have f17 := F8.keep Kq9 nin0
      have Z18 : n0 ≤ T9.heap.size := Nat.le_trans Z6 Kq9.1
      show Ends p.tables e below (T9.setTop (mkF m 44 #[.val (.int p0), .val (.int p1), .val (.int p2), .val (.int p3), .val (.int p4), .val (.int u), .val (.int v), .val (.int kd), .unset, .unset, .unset] [(.ref s1), (.ref a1), (.ref a1)])) _
      refine s_iloadN (pc' := 45) X9.here hx (hb hby at_44) rfl rfl ?_
      refine s_callSH (pc' := 48) (W := 3) X9 hx hZ hS hk (own_EW hw) HC13  hown (hw _ (List.mem_of_getElem? (i := 3) rfl)) (hw _ (List.mem_of_getElem? (i := 4) rfl)) (hw _ (List.mem_of_getElem? (i := 5) rfl)) (hw _ (List.mem_of_getElem? (i := 6) rfl)) (by decide) rfl (own_text l Z a0 hw [] p1 cs T9.heap n0 Z18 O14 S_cs hcs) own_safe0 (by rw [hml]; rfl) [(.int p1)] [(.ref s1), (.ref a1), (.ref a1)] rfl (lenOf own_pd10 rfl) rfl (Nat.le_of_eq rfl) (by decide) (by decide) (by decide) (by decide) rfl (hb hby at_45) fun T19 v19 Lc19 X19 hS hZ hown hr19 hQ19 => ?_
      obtain ⟨s2, b2, k2, rfl, Nq19, Kq19, szs2, Es2, Fc2, Fv2, Vb2⟩ := hQ19
      have g_s2 : n0 ≤ s2 := Nat.le_trans Z18 szs2
      have ne20 : a1 ≠ s2 := Nat.ne_of_lt (Nat.lt_of_lt_of_le f15.lt szs2)
      have ne21 : s1 ≠ s2 := Nat.ne_of_lt (Nat.lt_of_lt_of_le Es1.lt szs2)
      have ne22 : b1 ≠ s2 := Nat.ne_of_lt (Nat.lt_of_lt_of_le Vb1.lt szs2)
      have sf23 := CHr.safe hr19 f15.lt sf11
      have HR24 := CHr.trans HR12 (hr19)
      have HC25 := hr19.1
      have O26 := O14.keep Kq19 all0
      have N19 := Fr.app N9 Nq19
      have hk : T19.heap.size ≤ T19.heap.size := Nat.le_refl _
      have f27 := f15.keep Kq19
      have f28 := f16.keep Kq19 nin0
      have f29 := f17.keep Kq19 nin0
      have f30 := Es1.keep Kq19
      have f31 := Fc1.keep Kq19 nin0
      have f32 := Fv1.keep Kq19 nin0
      have f33 := Vb1.keep Kq19 nin0
      have Z34 : n0 ≤ T19.heap.size := Nat.le_trans Z18 Kq19.1
      show Ends p.tables e below (T19.setTop (mkF m 48 #[.val (.int p0), .val (.int p1), .val (.int p2), .val (.int p3), .val (.int p4), .val (.int u), .val (.int v), .val (.int kd), .unset, .unset, .unset] [(.ref s2), (.ref s1), (.ref a1), (.ref a1)])) _
      have neb1 : a1 ≠ b1 := Exa.neArv f27 f33 (hw _ (List.mem_of_getElem? (i := 1) rfl))
      have neb2 : a1 ≠ b2 := Exa.neArv f27 Vb2 (hw _ (List.mem_of_getElem? (i := 1) rfl))
      refine s_callI (pc' := 51) (W := 1) X19 hx hZ  rfl hown (hw _ (List.mem_of_getElem? (i := 46) rfl)) (hw _ (List.mem_of_getElem? (i := 47) rfl)) (hw _ (List.mem_of_getElem? (i := 2) rfl)) (hw _ (List.mem_of_getElem? (i := 48) rfl)) (by decide) rfl (own_ai l Z a0 hw [] a1 s1 s2 T19.heap n0 Z34 f28 f29 f27 g_a1) a1 (by rw [hml]; rfl) [(.ref s1), (.ref s2)] [(.ref a1)] rfl (lenOf own_pd11 rfl) rfl (Nat.le_of_eq rfl) (by decide) (by decide) (by decide) (by decide) rfl (hb hby at_48) fun T35 v35 Lc35 X35 hQ35 => ?_
      obtain ⟨rfl, Nq35, Kq35, Ea1, Fpa1, Fqa1⟩ := hQ35
      have hs36 := ((sfS sf23 sf0) : ∀ y_ ∈ ([a1] : List Addr), Safe Z consts_1 _ _ y_)
      have sf37 := Safe.keep Kq35 hs36 HC25 sf23
      have HR38 := CHr.trans HR24 (CHr.keep Kq35 hs36 HC25)
      have HC39 := CHv.keep Kq35 hs36 HC25
      have O40 := O26.keep Kq35 (allS g_a1 all0)
      have N35 := Fr.app N19 Nq35
      have f41 := f27.keep Kq35
      have f42 := f30.keep Kq35
      have f43 := f31.keep Kq35 (ninS (Ne.symm ne10) nin0)
      have f44 := f32.keep Kq35 (ninS (Ne.symm ne10) nin0)
      have f45 := f33.keep Kq35 (ninS (Ne.symm neb1) nin0)
      have f46 := Es2.keep Kq35
      have f47 := Fc2.keep Kq35 (ninS (Ne.symm ne20) nin0)
      have f48 := Fv2.keep Kq35 (ninS (Ne.symm ne20) nin0)
      have f49 := Vb2.keep Kq35 (ninS (Ne.symm neb2) nin0)
      have Z50 : n0 ≤ T35.heap.size := Nat.le_trans Z34 Kq35.1
      replace hk := Nat.le_trans hk Kq35.1
      show Ends p.tables e below (T35.setTop (mkF m 51 #[.val (.int p0), .val (.int p1), .val (.int p2), .val (.int p3), .val (.int p4), .val (.int u), .val (.int v), .val (.int kd), .unset, .unset, .unset] [(.ref a1)])) _
      refine s_astore (pc' := 53) X35.here hx (l' := #[.val (.int p0), .val (.int p1), .val (.int p2), .val (.int p3), .val (.int p4), .val (.int u), .val (.int v), .val (.int kd), .val (.ref a1), .unset, .unset]) (hb hby at_51) rfl rfl rfl ?_
      refine s_iload (pc' := 55) X35.here hx (hb hby at_53) rfl rfl ?_
      by_cases hk0_ : kd = (0 : Int32)
      · refine s_ifNo (pc' := 58) X35.here hx (hb hby at_55) ((if0 _ _).trans (teq hk0_).2) rfl ?_
        refine s_newO (pc' := 61) X35 hx hZ hown (hw _ (List.mem_of_getElem? (i := 0) rfl)) (hw _ (List.mem_of_getElem? (i := 1) rfl)) (hw _ (List.mem_of_getElem? (i := 2) rfl)) rfl (hb hby at_58) (by decide) (by decide) rfl fun T51 hp51 X51 e51 E51 a2 gq51 A51 D51 => ?_
        have g_a2 : n0 ≤ a2 := Nat.le_trans Z50 (Nat.le_of_eq gq51.symm)
        have ne52 : a1 ≠ a2 := Nat.ne_of_lt (Nat.lt_of_lt_of_le Ea1.lt (Nat.le_of_eq gq51.symm))
        have ne53 : s1 ≠ a2 := Nat.ne_of_lt (Nat.lt_of_lt_of_le f42.lt (Nat.le_of_eq gq51.symm))
        have ne54 : b1 ≠ a2 := Nat.ne_of_lt (Nat.lt_of_lt_of_le f45.lt (Nat.le_of_eq gq51.symm))
        have ne55 : s2 ≠ a2 := Nat.ne_of_lt (Nat.lt_of_lt_of_le f46.lt (Nat.le_of_eq gq51.symm))
        have ne56 : b2 ≠ a2 := Nat.ne_of_lt (Nat.lt_of_lt_of_le f49.lt (Nat.le_of_eq gq51.symm))
        have sf57 := Safe.ext E51 HC39 (Safe.new (Nat.le_of_eq gq51.symm))
        have sf58 := Safe.ext E51 HC39 sf37
        have HR59 := CHr.trans HR38 (CHr.ext E51 HC39)
        have HC60 := CHv.ext E51 HC39
        have O61 := O40.ext E51
        have f62 := Ea1.ext E51
        have f63 := f42.ext E51
        have f64 := f43.ext E51
        have f65 := f44.ext E51
        have f66 := f45.ext E51
        have f67 := f46.ext E51
        have f68 := f47.ext E51
        have f69 := f48.ext E51
        have f70 := f49.ext E51
        have f71 := Fpa1.ext E51
        have f72 := Fqa1.ext E51
        replace hk := Nat.le_trans hk E51.1
        have Z73 : n0 ≤ hp51.size := Nat.le_trans Z50 E51.1
        have F74 : Fld Z hp51 a2 "com/example/vestbook/vestbook/AccountId" "participant" "Ljava/lang/String;" .null := D51 (Or.inr (hw _ (List.mem_of_getElem? (i := 56) rfl))) (ty := (.object "java/lang/String")) (by decide)
        have F75 : Fld Z hp51 a2 "com/example/vestbook/vestbook/AccountId" "account" "Ljava/lang/String;" .null := D51 (Or.inr (hw _ (List.mem_of_getElem? (i := 58) rfl))) (ty := (.object "java/lang/String")) (by decide)
        refine s_dup (pc' := 62) X51.here hx (hb hby at_61) rfl rfl ?_
        refine s_iload (pc' := 64) X51.here hx (hb hby at_62) rfl rfl ?_
        refine s_callSH (pc' := 67) (W := 2) X51 hx hZ hS hk (own_EW hw) HC60  hown (hw _ (List.mem_of_getElem? (i := 3) rfl)) (hw _ (List.mem_of_getElem? (i := 4) rfl)) (hw _ (List.mem_of_getElem? (i := 5) rfl)) (hw _ (List.mem_of_getElem? (i := 6) rfl)) (by decide) e51 (own_text l Z a0 hw [] u cs hp51 n0 Z73 O61 S_cs hcs) own_safe0 (by rw [hml]; rfl) [(.int u)] [(.ref a2), (.ref a2)] rfl (lenOf own_pd10 rfl) rfl (Nat.le_of_eq rfl) (by decide) (by decide) (by decide) (by decide) rfl (hb hby at_64) fun T76 v76 Lc76 X76 hS hZ hown hr76 hQ76 => ?_
        obtain ⟨s3, b3, k3, rfl, Nq76, Kq76, szs3, Es3, Fc3, Fv3, Vb3⟩ := hQ76
        have g_s3 : n0 ≤ s3 := Nat.le_trans Z73 szs3
        have ne77 : a1 ≠ s3 := Nat.ne_of_lt (Nat.lt_of_lt_of_le f62.lt szs3)
        have ne78 : s1 ≠ s3 := Nat.ne_of_lt (Nat.lt_of_lt_of_le f63.lt szs3)
        have ne79 : b1 ≠ s3 := Nat.ne_of_lt (Nat.lt_of_lt_of_le f66.lt szs3)
        have ne80 : s2 ≠ s3 := Nat.ne_of_lt (Nat.lt_of_lt_of_le f67.lt szs3)
        have ne81 : b2 ≠ s3 := Nat.ne_of_lt (Nat.lt_of_lt_of_le f70.lt szs3)
        have ne82 : a2 ≠ s3 := Nat.ne_of_lt (Nat.lt_of_lt_of_le A51.lt szs3)
        have sf83 := CHr.safe hr76 f62.lt sf58
        have sf84 := CHr.safe hr76 A51.lt sf57
        have HR85 := CHr.trans HR59 (hr76)
        have HC86 := hr76.1
        have O87 := O61.keep Kq76 all0
        have N76 := Fr.app N35 Nq76
        have hk : T76.heap.size ≤ T76.heap.size := Nat.le_refl _
        have f88 := f62.keep Kq76
        have f89 := f63.keep Kq76
        have f90 := f64.keep Kq76 nin0
        have f91 := f65.keep Kq76 nin0
        have f92 := f66.keep Kq76 nin0
        have f93 := f67.keep Kq76
        have f94 := f68.keep Kq76 nin0
        have f95 := f69.keep Kq76 nin0
        have f96 := f70.keep Kq76 nin0
        have f97 := f71.keep Kq76 nin0
        have f98 := f72.keep Kq76 nin0
        have f99 := A51.keep Kq76
        have f100 := F74.keep Kq76 nin0
        have f101 := F75.keep Kq76 nin0
        have Z102 : n0 ≤ T76.heap.size := Nat.le_trans Z73 Kq76.1
        show Ends p.tables e below (T76.setTop (mkF m 67 #[.val (.int p0), .val (.int p1), .val (.int p2), .val (.int p3), .val (.int p4), .val (.int u), .val (.int v), .val (.int kd), .val (.ref a1), .unset, .unset] [(.ref s3), (.ref a2), (.ref a2)])) _
        refine s_iload (pc' := 69) X76.here hx (hb hby at_67) rfl rfl ?_
        refine s_callSH (pc' := 72) (W := 3) X76 hx hZ hS hk (own_EW hw) HC86  hown (hw _ (List.mem_of_getElem? (i := 3) rfl)) (hw _ (List.mem_of_getElem? (i := 4) rfl)) (hw _ (List.mem_of_getElem? (i := 5) rfl)) (hw _ (List.mem_of_getElem? (i := 6) rfl)) (by decide) rfl (own_text l Z a0 hw [] v cs T76.heap n0 Z102 O87 S_cs hcs) own_safe0 (by rw [hml]; rfl) [(.int v)] [(.ref s3), (.ref a2), (.ref a2)] rfl (lenOf own_pd10 rfl) rfl (Nat.le_of_eq rfl) (by decide) (by decide) (by decide) (by decide) rfl (hb hby at_69) fun T103 v103 Lc103 X103 hS hZ hown hr103 hQ103 => ?_
        obtain ⟨s4, b4, k4, rfl, Nq103, Kq103, szs4, Es4, Fc4, Fv4, Vb4⟩ := hQ103
        have g_s4 : n0 ≤ s4 := Nat.le_trans Z102 szs4
        have ne104 : a1 ≠ s4 := Nat.ne_of_lt (Nat.lt_of_lt_of_le f88.lt szs4)
        have ne105 : s1 ≠ s4 := Nat.ne_of_lt (Nat.lt_of_lt_of_le f89.lt szs4)
        have ne106 : b1 ≠ s4 := Nat.ne_of_lt (Nat.lt_of_lt_of_le f92.lt szs4)
        have ne107 : s2 ≠ s4 := Nat.ne_of_lt (Nat.lt_of_lt_of_le f93.lt szs4)
        have ne108 : b2 ≠ s4 := Nat.ne_of_lt (Nat.lt_of_lt_of_le f96.lt szs4)
        have ne109 : a2 ≠ s4 := Nat.ne_of_lt (Nat.lt_of_lt_of_le f99.lt szs4)
        have ne110 : s3 ≠ s4 := Nat.ne_of_lt (Nat.lt_of_lt_of_le Es3.lt szs4)
        have ne111 : b3 ≠ s4 := Nat.ne_of_lt (Nat.lt_of_lt_of_le Vb3.lt szs4)
        have sf112 := CHr.safe hr103 f88.lt sf83
        have sf113 := CHr.safe hr103 f99.lt sf84
        have HR114 := CHr.trans HR85 (hr103)
        have HC115 := hr103.1
        have O116 := O87.keep Kq103 all0
        have N103 := Fr.app N76 Nq103
        have hk : T103.heap.size ≤ T103.heap.size := Nat.le_refl _
        have f117 := f88.keep Kq103
        have f118 := f89.keep Kq103
        have f119 := f90.keep Kq103 nin0
        have f120 := f91.keep Kq103 nin0
        have f121 := f92.keep Kq103 nin0
        have f122 := f93.keep Kq103
        have f123 := f94.keep Kq103 nin0
        have f124 := f95.keep Kq103 nin0
        have f125 := f96.keep Kq103 nin0
        have f126 := f97.keep Kq103 nin0
        have f127 := f98.keep Kq103 nin0
        have f128 := f99.keep Kq103
        have f129 := f100.keep Kq103 nin0
        have f130 := f101.keep Kq103 nin0
        have f131 := Es3.keep Kq103
        have f132 := Fc3.keep Kq103 nin0
        have f133 := Fv3.keep Kq103 nin0
        have f134 := Vb3.keep Kq103 nin0
        have Z135 : n0 ≤ T103.heap.size := Nat.le_trans Z102 Kq103.1
        show Ends p.tables e below (T103.setTop (mkF m 72 #[.val (.int p0), .val (.int p1), .val (.int p2), .val (.int p3), .val (.int p4), .val (.int u), .val (.int v), .val (.int kd), .val (.ref a1), .unset, .unset] [(.ref s4), (.ref s3), (.ref a2), (.ref a2)])) _
        have neb3 : a2 ≠ b3 := Exa.neArv f128 f134 (hw _ (List.mem_of_getElem? (i := 1) rfl))
        have neb4 : a2 ≠ b4 := Exa.neArv f128 Vb4 (hw _ (List.mem_of_getElem? (i := 1) rfl))
        refine s_callI (pc' := 75) (W := 1) X103 hx hZ  rfl hown (hw _ (List.mem_of_getElem? (i := 46) rfl)) (hw _ (List.mem_of_getElem? (i := 47) rfl)) (hw _ (List.mem_of_getElem? (i := 2) rfl)) (hw _ (List.mem_of_getElem? (i := 48) rfl)) (by decide) rfl (own_ai l Z a0 hw [] a2 s3 s4 T103.heap n0 Z135 f129 f130 f128 g_a2) a2 (by rw [hml]; rfl) [(.ref s3), (.ref s4)] [(.ref a2)] rfl (lenOf own_pd11 rfl) rfl (Nat.le_of_eq rfl) (by decide) (by decide) (by decide) (by decide) rfl (hb hby at_72) fun T136 v136 Lc136 X136 hQ136 => ?_
        obtain ⟨rfl, Nq136, Kq136, Ea2, Fpa2, Fqa2⟩ := hQ136
        have hs137 := ((sfS sf113 sf0) : ∀ y_ ∈ ([a2] : List Addr), Safe Z consts_1 _ _ y_)
        have sf138 := Safe.keep Kq136 hs137 HC115 sf112
        have sf139 := Safe.keep Kq136 hs137 HC115 sf113
        have HR140 := CHr.trans HR114 (CHr.keep Kq136 hs137 HC115)
        have HC141 := CHv.keep Kq136 hs137 HC115
        have O142 := O116.keep Kq136 (allS g_a2 all0)
        have N136 := Fr.app N103 Nq136
        have f143 := f117.keep Kq136
        have f144 := f118.keep Kq136
        have f145 := f119.keep Kq136 (ninS ne53 nin0)
        have f146 := f120.keep Kq136 (ninS ne53 nin0)
        have f147 := f121.keep Kq136 (ninS ne54 nin0)
        have f148 := f122.keep Kq136
        have f149 := f123.keep Kq136 (ninS ne55 nin0)
        have f150 := f124.keep Kq136 (ninS ne55 nin0)
        have f151 := f125.keep Kq136 (ninS ne56 nin0)
        have f152 := f126.keep Kq136 (ninS ne52 nin0)
        have f153 := f127.keep Kq136 (ninS ne52 nin0)
        have f154 := f128.keep Kq136
        have f155 := f131.keep Kq136
        have f156 := f132.keep Kq136 (ninS (Ne.symm ne82) nin0)
        have f157 := f133.keep Kq136 (ninS (Ne.symm ne82) nin0)
        have f158 := f134.keep Kq136 (ninS (Ne.symm neb3) nin0)
        have f159 := Es4.keep Kq136
        have f160 := Fc4.keep Kq136 (ninS (Ne.symm ne109) nin0)
        have f161 := Fv4.keep Kq136 (ninS (Ne.symm ne109) nin0)
        have f162 := Vb4.keep Kq136 (ninS (Ne.symm neb4) nin0)
        have Z163 : n0 ≤ T136.heap.size := Nat.le_trans Z135 Kq136.1
        replace hk := Nat.le_trans hk Kq136.1
        show Ends p.tables e below (T136.setTop (mkF m 75 #[.val (.int p0), .val (.int p1), .val (.int p2), .val (.int p3), .val (.int p4), .val (.int u), .val (.int v), .val (.int kd), .val (.ref a1), .unset, .unset] [(.ref a2)])) _
        refine s_astore (pc' := 77) X136.here hx (l' := #[.val (.int p0), .val (.int p1), .val (.int p2), .val (.int p3), .val (.int p4), .val (.int u), .val (.int v), .val (.int kd), .val (.ref a1), .val (.ref a2), .unset]) (hb hby at_75) rfl rfl rfl ?_
        refine s_iloadN (pc' := 78) X136.here hx (hb hby at_77) rfl rfl ?_
        refine s_iload (pc' := 80) X136.here hx (hb hby at_78) rfl rfl ?_
        obtain ⟨r1, r01, hr1⟩ := own_pick (own_S p0 u)
        obtain ⟨r2, r02, hr2⟩ := own_pick (own_S p1 v)
        refine s_callS (pc' := 83) (W := 0) X136 hx hZ  hown (hw _ (List.mem_of_getElem? (i := 59) rfl)) (hw _ (List.mem_of_getElem? (i := 60) rfl)) (hw _ (List.mem_of_getElem? (i := 5) rfl)) (hw _ (List.mem_of_getElem? (i := 61) rfl)) (by decide) rfl (own_sm l Z a0 hw [] p0 u r1 T136.heap n0 Z163 r01 hr1) (by rw [hml]; rfl) [(.int p0), (.int u)] [] rfl (lenOf own_pd12 rfl) rfl (Nat.le_of_eq rfl) (by decide) (by decide) (by decide) (by decide) rfl (hb hby at_80) fun T164 v164 Lc164 X164 hQ164 => ?_
        obtain ⟨rfl, Nq164, eh164⟩ := hQ164
        have N164 := Fr.app N136 Nq164
        show Ends p.tables e below (T164.setTop (mkF m 83 #[.val (.int p0), .val (.int p1), .val (.int p2), .val (.int p3), .val (.int p4), .val (.int u), .val (.int v), .val (.int kd), .val (.ref a1), .val (.ref a2), .unset] [(.int r1)])) _
        by_cases hq1 : r1 = (0 : Int32)
        · refine s_ifYes (pc' := 99) X164.here hx (hb hby at_83) ((if0 _ _).trans (teq hq1).1) (by decide) (by decide) ?_
          refine s_iconst (pc' := 100) X164.here hx (v := (0 : Int32)) (hb hby at_99) rfl rfl ?_
          refine s_istore (pc' := 102) X164.here hx (l' := #[.val (.int p0), .val (.int p1), .val (.int p2), .val (.int p3), .val (.int p4), .val (.int u), .val (.int v), .val (.int kd), .val (.ref a1), .val (.ref a2), .val (.int (0 : Int32))]) (hb hby at_100) rfl rfl ?_
          refine s_goto (pc' := 146) X164.here hx (hb hby at_102) (by decide) (by decide) ?_
          refine s_aload (pc' := 148) X164.here hx (hb hby at_146) rfl rfl rfl ?_
          refine s_aload (pc' := 150) X164.here hx (hb hby at_148) rfl rfl rfl ?_
          refine s_callV (pc' := 153) (W := 0) X164 hx hZ  hown (hw _ (List.mem_of_getElem? (i := 62) rfl)) (hw _ (List.mem_of_getElem? (i := 63) rfl)) (hw _ (List.mem_of_getElem? (i := 2) rfl)) (hw _ (List.mem_of_getElem? (i := 66) rfl)) (hw _ (List.mem_of_getElem? (i := 65) rfl)) (hw _ (List.mem_of_getElem? (i := 64) rfl)) (by decide) eh164 f143 (own_eqA l Z a0 hw [] a1 a2 cs s1 b1 k1 (p0 &&& (3 : Int32)) (own_tx p0) s2 b2 k2 (p1 &&& (3 : Int32)) (own_tx p1) s3 b3 k3 (u &&& (3 : Int32)) (own_tx u) s4 b4 k4 (v &&& (3 : Int32)) (own_tx v) r1 r2 T136.heap n0 Z163 O142 S_cs hcs Ea2 f152 f153 Fpa2 Fqa2 f144 f145 f146 f147 f148 f149 f150 f151 f155 f156 f157 f158 f159 f160 f161 f162 r01 hr1 r02 hr2) (by rw [hml]; rfl) [(.ref a2)] [] rfl (lenOf own_pd9 rfl) rfl (Nat.le_of_eq rfl) (by decide) (by decide) (by decide) (by decide) rfl (hb hby at_150) fun T165 v165 Lc165 X165 hQ165 => ?_
          obtain ⟨rfl, Nq165, eh165⟩ := hQ165
          have N165 := Fr.app N164 Nq165
          show Ends p.tables e below (T165.setTop (mkF m 153 #[.val (.int p0), .val (.int p1), .val (.int p2), .val (.int p3), .val (.int p4), .val (.int u), .val (.int v), .val (.int kd), .val (.ref a1), .val (.ref a2), .val (.int (0 : Int32))] [(.int (if r1 = 0 then 0 else r2))])) _
          refine s_iload (pc' := 155) X165.here hx (hb hby at_153) rfl rfl ?_
          have hk166 : (if r1 = 0 then 0 else r2) = (0 : Int32) := if_pos hq1
          refine s_icmpNo (pc' := 158) X165.here hx (hb hby at_155) (teq hk166).2 rfl ?_
          refine s_iconst (pc' := 159) X165.here hx (v := (1 : Int32)) (hb hby at_158) rfl rfl ?_
          refine s_goto (pc' := 163) X165.here hx (hb hby at_159) (by decide) (by decide) ?_
          obtain ⟨fs, hr, hrun, hended, hRW⟩ := X165.leaveW hS (show _ ≤ T165.heap.size from by rw [eh165]; exact hk) (v := some (.int (1 : Int32))) (fun h => by rw [Bd.returns] at h; cases h)
          have hfin : CHr Z consts_1 s.vm s.heap T165.vm T165.heap := by rw [hh, eh165]; exact CHr.trans HR140 (CHv.at X165 hZ (own_EW hw) HC141)
          refine ⟨_, _, retN X165 hx (t := .boolean) Bd.returns (by simp) (hb hby at_163) hr, hrun, hended, _, _, rfl, ?_, hfin, own_rwm hRW (by decide) (by decide)⟩
          show own_rm0_Q Z p0 p1 p2 p3 p4 cs h0 n0 _ T165.heap _
          rw [eh165]
          exact ⟨rfl, N165⟩
        · refine s_ifNo (pc' := 86) X164.here hx (hb hby at_83) ((if0 _ _).trans (feq hq1).1) rfl ?_
          refine s_iloadN (pc' := 87) X164.here hx (hb hby at_86) rfl rfl ?_
          refine s_iload (pc' := 89) X164.here hx (hb hby at_87) rfl rfl ?_
          refine s_callS (pc' := 92) (W := 0) X164 hx hZ  hown (hw _ (List.mem_of_getElem? (i := 59) rfl)) (hw _ (List.mem_of_getElem? (i := 60) rfl)) (hw _ (List.mem_of_getElem? (i := 5) rfl)) (hw _ (List.mem_of_getElem? (i := 61) rfl)) (by decide) eh164 (own_sm l Z a0 hw [] p1 v r2 T136.heap n0 Z163 r02 hr2) (by rw [hml]; rfl) [(.int p1), (.int v)] [] rfl (lenOf own_pd12 rfl) rfl (Nat.le_of_eq rfl) (by decide) (by decide) (by decide) (by decide) rfl (hb hby at_89) fun T167 v167 Lc167 X167 hQ167 => ?_
          obtain ⟨rfl, Nq167, eh167⟩ := hQ167
          have N167 := Fr.app N164 Nq167
          show Ends p.tables e below (T167.setTop (mkF m 92 #[.val (.int p0), .val (.int p1), .val (.int p2), .val (.int p3), .val (.int p4), .val (.int u), .val (.int v), .val (.int kd), .val (.ref a1), .val (.ref a2), .unset] [(.int r2)])) _
          by_cases hq2 : r2 = (0 : Int32)
          · refine s_ifYes (pc' := 99) X167.here hx (hb hby at_92) ((if0 _ _).trans (teq hq2).1) (by decide) (by decide) ?_
            refine s_iconst (pc' := 100) X167.here hx (v := (0 : Int32)) (hb hby at_99) rfl rfl ?_
            refine s_istore (pc' := 102) X167.here hx (l' := #[.val (.int p0), .val (.int p1), .val (.int p2), .val (.int p3), .val (.int p4), .val (.int u), .val (.int v), .val (.int kd), .val (.ref a1), .val (.ref a2), .val (.int (0 : Int32))]) (hb hby at_100) rfl rfl ?_
            refine s_goto (pc' := 146) X167.here hx (hb hby at_102) (by decide) (by decide) ?_
            refine s_aload (pc' := 148) X167.here hx (hb hby at_146) rfl rfl rfl ?_
            refine s_aload (pc' := 150) X167.here hx (hb hby at_148) rfl rfl rfl ?_
            refine s_callV (pc' := 153) (W := 0) X167 hx hZ  hown (hw _ (List.mem_of_getElem? (i := 62) rfl)) (hw _ (List.mem_of_getElem? (i := 63) rfl)) (hw _ (List.mem_of_getElem? (i := 2) rfl)) (hw _ (List.mem_of_getElem? (i := 66) rfl)) (hw _ (List.mem_of_getElem? (i := 65) rfl)) (hw _ (List.mem_of_getElem? (i := 64) rfl)) (by decide) eh167 f143 (own_eqA l Z a0 hw [] a1 a2 cs s1 b1 k1 (p0 &&& (3 : Int32)) (own_tx p0) s2 b2 k2 (p1 &&& (3 : Int32)) (own_tx p1) s3 b3 k3 (u &&& (3 : Int32)) (own_tx u) s4 b4 k4 (v &&& (3 : Int32)) (own_tx v) r1 r2 T136.heap n0 Z163 O142 S_cs hcs Ea2 f152 f153 Fpa2 Fqa2 f144 f145 f146 f147 f148 f149 f150 f151 f155 f156 f157 f158 f159 f160 f161 f162 r01 hr1 r02 hr2) (by rw [hml]; rfl) [(.ref a2)] [] rfl (lenOf own_pd9 rfl) rfl (Nat.le_of_eq rfl) (by decide) (by decide) (by decide) (by decide) rfl (hb hby at_150) fun T168 v168 Lc168 X168 hQ168 => ?_
            obtain ⟨rfl, Nq168, eh168⟩ := hQ168
            have N168 := Fr.app N167 Nq168
            show Ends p.tables e below (T168.setTop (mkF m 153 #[.val (.int p0), .val (.int p1), .val (.int p2), .val (.int p3), .val (.int p4), .val (.int u), .val (.int v), .val (.int kd), .val (.ref a1), .val (.ref a2), .val (.int (0 : Int32))] [(.int (if r1 = 0 then 0 else r2))])) _
            refine s_iload (pc' := 155) X168.here hx (hb hby at_153) rfl rfl ?_
            have hk169 : (if r1 = 0 then 0 else r2) = (0 : Int32) := by rw [if_neg hq1, hq2]
            refine s_icmpNo (pc' := 158) X168.here hx (hb hby at_155) (teq hk169).2 rfl ?_
            refine s_iconst (pc' := 159) X168.here hx (v := (1 : Int32)) (hb hby at_158) rfl rfl ?_
            refine s_goto (pc' := 163) X168.here hx (hb hby at_159) (by decide) (by decide) ?_
            obtain ⟨fs, hr, hrun, hended, hRW⟩ := X168.leaveW hS (show _ ≤ T168.heap.size from by rw [eh168]; exact hk) (v := some (.int (1 : Int32))) (fun h => by rw [Bd.returns] at h; cases h)
            have hfin : CHr Z consts_1 s.vm s.heap T168.vm T168.heap := by rw [hh, eh168]; exact CHr.trans HR140 (CHv.at X168 hZ (own_EW hw) HC141)
            refine ⟨_, _, retN X168 hx (t := .boolean) Bd.returns (by simp) (hb hby at_163) hr, hrun, hended, _, _, rfl, ?_, hfin, own_rwm hRW (by decide) (by decide)⟩
            show own_rm0_Q Z p0 p1 p2 p3 p4 cs h0 n0 _ T168.heap _
            rw [eh168]
            exact ⟨rfl, N168⟩
          · refine s_ifNo (pc' := 95) X167.here hx (hb hby at_92) ((if0 _ _).trans (feq hq2).1) rfl ?_
            refine s_iconst (pc' := 96) X167.here hx (v := (1 : Int32)) (hb hby at_95) rfl rfl ?_
            refine s_goto (pc' := 100) X167.here hx (hb hby at_96) (by decide) (by decide) ?_
            refine s_istore (pc' := 102) X167.here hx (l' := #[.val (.int p0), .val (.int p1), .val (.int p2), .val (.int p3), .val (.int p4), .val (.int u), .val (.int v), .val (.int kd), .val (.ref a1), .val (.ref a2), .val (.int (1 : Int32))]) (hb hby at_100) rfl rfl ?_
            refine s_goto (pc' := 146) X167.here hx (hb hby at_102) (by decide) (by decide) ?_
            refine s_aload (pc' := 148) X167.here hx (hb hby at_146) rfl rfl rfl ?_
            refine s_aload (pc' := 150) X167.here hx (hb hby at_148) rfl rfl rfl ?_
            refine s_callV (pc' := 153) (W := 0) X167 hx hZ  hown (hw _ (List.mem_of_getElem? (i := 62) rfl)) (hw _ (List.mem_of_getElem? (i := 63) rfl)) (hw _ (List.mem_of_getElem? (i := 2) rfl)) (hw _ (List.mem_of_getElem? (i := 66) rfl)) (hw _ (List.mem_of_getElem? (i := 65) rfl)) (hw _ (List.mem_of_getElem? (i := 64) rfl)) (by decide) eh167 f143 (own_eqA l Z a0 hw [] a1 a2 cs s1 b1 k1 (p0 &&& (3 : Int32)) (own_tx p0) s2 b2 k2 (p1 &&& (3 : Int32)) (own_tx p1) s3 b3 k3 (u &&& (3 : Int32)) (own_tx u) s4 b4 k4 (v &&& (3 : Int32)) (own_tx v) r1 r2 T136.heap n0 Z163 O142 S_cs hcs Ea2 f152 f153 Fpa2 Fqa2 f144 f145 f146 f147 f148 f149 f150 f151 f155 f156 f157 f158 f159 f160 f161 f162 r01 hr1 r02 hr2) (by rw [hml]; rfl) [(.ref a2)] [] rfl (lenOf own_pd9 rfl) rfl (Nat.le_of_eq rfl) (by decide) (by decide) (by decide) (by decide) rfl (hb hby at_150) fun T170 v170 Lc170 X170 hQ170 => ?_
            obtain ⟨rfl, Nq170, eh170⟩ := hQ170
            have N170 := Fr.app N167 Nq170
            show Ends p.tables e below (T170.setTop (mkF m 153 #[.val (.int p0), .val (.int p1), .val (.int p2), .val (.int p3), .val (.int p4), .val (.int u), .val (.int v), .val (.int kd), .val (.ref a1), .val (.ref a2), .val (.int (1 : Int32))] [(.int (if r1 = 0 then 0 else r2))])) _
            refine s_iload (pc' := 155) X170.here hx (hb hby at_153) rfl rfl ?_
            have hk171 : (if r1 = 0 then 0 else r2) = (1 : Int32) := by rw [if_neg hq1, r02.resolve_left hq2]
            refine s_icmpNo (pc' := 158) X170.here hx (hb hby at_155) (teq hk171).2 rfl ?_
            refine s_iconst (pc' := 159) X170.here hx (v := (1 : Int32)) (hb hby at_158) rfl rfl ?_
            refine s_goto (pc' := 163) X170.here hx (hb hby at_159) (by decide) (by decide) ?_
            obtain ⟨fs, hr, hrun, hended, hRW⟩ := X170.leaveW hS (show _ ≤ T170.heap.size from by rw [eh170]; exact hk) (v := some (.int (1 : Int32))) (fun h => by rw [Bd.returns] at h; cases h)
            have hfin : CHr Z consts_1 s.vm s.heap T170.vm T170.heap := by rw [hh, eh170]; exact CHr.trans HR140 (CHv.at X170 hZ (own_EW hw) HC141)
            refine ⟨_, _, retN X170 hx (t := .boolean) Bd.returns (by simp) (hb hby at_163) hr, hrun, hended, _, _, rfl, ?_, hfin, own_rwm hRW (by decide) (by decide)⟩
            show own_rm0_Q Z p0 p1 p2 p3 p4 cs h0 n0 _ T170.heap _
            rw [eh170]
            exact ⟨rfl, N170⟩
      · refine s_ifYes (pc' := 105) X35.here hx (hb hby at_55) ((if0 _ _).trans (feq hk0_).2) (by decide) (by decide) ?_
        refine s_iload (pc' := 107) X35.here hx (hb hby at_105) rfl rfl ?_
        refine s_iconst (pc' := 108) X35.here hx (v := (1 : Int32)) (hb hby at_107) rfl rfl ?_
        by_cases hk1_ : kd = (1 : Int32)
        · refine s_icmpNo (pc' := 111) X35.here hx (hb hby at_108) (teq hk1_).2 rfl ?_
          refine s_aconstNull (pc' := 112) X35.here hx (hb hby at_111) rfl ?_
          refine s_astore (pc' := 114) X35.here hx (l' := #[.val (.int p0), .val (.int p1), .val (.int p2), .val (.int p3), .val (.int p4), .val (.int u), .val (.int v), .val (.int kd), .val (.ref a1), .val .null, .unset]) (hb hby at_112) rfl rfl rfl ?_
          refine s_iconst (pc' := 115) X35.here hx (v := (0 : Int32)) (hb hby at_114) rfl rfl ?_
          refine s_istore (pc' := 117) X35.here hx (l' := #[.val (.int p0), .val (.int p1), .val (.int p2), .val (.int p3), .val (.int p4), .val (.int u), .val (.int v), .val (.int kd), .val (.ref a1), .val .null, .val (.int (0 : Int32))]) (hb hby at_115) rfl rfl ?_
          refine s_goto (pc' := 146) X35.here hx (hb hby at_117) (by decide) (by decide) ?_
          refine s_aload (pc' := 148) X35.here hx (hb hby at_146) rfl rfl rfl ?_
          refine s_aload (pc' := 150) X35.here hx (hb hby at_148) rfl rfl rfl ?_
          refine s_callV (pc' := 153) (W := 0) X35 hx hZ  hown (hw _ (List.mem_of_getElem? (i := 62) rfl)) (hw _ (List.mem_of_getElem? (i := 63) rfl)) (hw _ (List.mem_of_getElem? (i := 2) rfl)) (hw _ (List.mem_of_getElem? (i := 66) rfl)) (hw _ (List.mem_of_getElem? (i := 65) rfl)) (hw _ (List.mem_of_getElem? (i := 64) rfl)) (by decide) rfl Ea1 (own_eqN l Z a0 hw [] a1 T35.heap n0 Z50 ) (by rw [hml]; rfl) [.null] [] rfl (lenOf own_pd9 rfl) rfl (Nat.le_of_eq rfl) (by decide) (by decide) (by decide) (by decide) rfl (hb hby at_150) fun T172 v172 Lc172 X172 hQ172 => ?_
          obtain ⟨rfl, Nq172, eh172⟩ := hQ172
          have N172 := Fr.app N35 Nq172
          show Ends p.tables e below (T172.setTop (mkF m 153 #[.val (.int p0), .val (.int p1), .val (.int p2), .val (.int p3), .val (.int p4), .val (.int u), .val (.int v), .val (.int kd), .val (.ref a1), .val .null, .val (.int (0 : Int32))] [(.int (0 : Int32))])) _
          refine s_iload (pc' := 155) X172.here hx (hb hby at_153) rfl rfl ?_
          have hk173 : (0 : Int32) = (0 : Int32) := rfl
          refine s_icmpNo (pc' := 158) X172.here hx (hb hby at_155) (teq hk173).2 rfl ?_
          refine s_iconst (pc' := 159) X172.here hx (v := (1 : Int32)) (hb hby at_158) rfl rfl ?_
          refine s_goto (pc' := 163) X172.here hx (hb hby at_159) (by decide) (by decide) ?_
          obtain ⟨fs, hr, hrun, hended, hRW⟩ := X172.leaveW hS (show _ ≤ T172.heap.size from by rw [eh172]; exact hk) (v := some (.int (1 : Int32))) (fun h => by rw [Bd.returns] at h; cases h)
          have hfin : CHr Z consts_1 s.vm s.heap T172.vm T172.heap := by rw [hh, eh172]; exact CHr.trans HR38 (CHv.at X172 hZ (own_EW hw) HC39)
          refine ⟨_, _, retN X172 hx (t := .boolean) Bd.returns (by simp) (hb hby at_163) hr, hrun, hended, _, _, rfl, ?_, hfin, own_rwm hRW (by decide) (by decide)⟩
          show own_rm0_Q Z p0 p1 p2 p3 p4 cs h0 n0 _ T172.heap _
          rw [eh172]
          exact ⟨rfl, N172⟩
        · refine s_icmpYes (pc' := 120) X35.here hx (hb hby at_108) (feq hk1_).2 (by decide) (by decide) ?_
          refine s_iload (pc' := 122) X35.here hx (hb hby at_120) rfl rfl ?_
          refine s_iconst (pc' := 123) X35.here hx (v := (2 : Int32)) (hb hby at_122) rfl rfl ?_
          by_cases hk2_ : kd = (2 : Int32)
          · refine s_icmpNo (pc' := 126) X35.here hx (hb hby at_123) (teq hk2_).2 rfl ?_
            refine s_iload (pc' := 128) X35.here hx (hb hby at_126) rfl rfl ?_
            refine s_callSH (pc' := 131) (W := 0) X35 hx hZ hS hk (own_EW hw) HC39  hown (hw _ (List.mem_of_getElem? (i := 3) rfl)) (hw _ (List.mem_of_getElem? (i := 4) rfl)) (hw _ (List.mem_of_getElem? (i := 5) rfl)) (hw _ (List.mem_of_getElem? (i := 6) rfl)) (by decide) rfl (own_text l Z a0 hw [] u cs T35.heap n0 Z50 O40 S_cs hcs) own_safe0 (by rw [hml]; rfl) [(.int u)] [] rfl (lenOf own_pd10 rfl) rfl (Nat.le_of_eq rfl) (by decide) (by decide) (by decide) (by decide) rfl (hb hby at_128) fun T174 v174 Lc174 X174 hS hZ hown hr174 hQ174 => ?_
            obtain ⟨s3, b3, k3, rfl, Nq174, Kq174, szs3, Es3, Fc3, Fv3, Vb3⟩ := hQ174
            have g_s3 : n0 ≤ s3 := Nat.le_trans Z50 szs3
            have ne175 : a1 ≠ s3 := Nat.ne_of_lt (Nat.lt_of_lt_of_le Ea1.lt szs3)
            have ne176 : s1 ≠ s3 := Nat.ne_of_lt (Nat.lt_of_lt_of_le f42.lt szs3)
            have ne177 : b1 ≠ s3 := Nat.ne_of_lt (Nat.lt_of_lt_of_le f45.lt szs3)
            have ne178 : s2 ≠ s3 := Nat.ne_of_lt (Nat.lt_of_lt_of_le f46.lt szs3)
            have ne179 : b2 ≠ s3 := Nat.ne_of_lt (Nat.lt_of_lt_of_le f49.lt szs3)
            have sf180 := CHr.safe hr174 Ea1.lt sf37
            have HR181 := CHr.trans HR38 (hr174)
            have HC182 := hr174.1
            have O183 := O40.keep Kq174 all0
            have N174 := Fr.app N35 Nq174
            have hk : T174.heap.size ≤ T174.heap.size := Nat.le_refl _
            have f184 := Ea1.keep Kq174
            have f185 := f42.keep Kq174
            have f186 := f43.keep Kq174 nin0
            have f187 := f44.keep Kq174 nin0
            have f188 := f45.keep Kq174 nin0
            have f189 := f46.keep Kq174
            have f190 := f47.keep Kq174 nin0
            have f191 := f48.keep Kq174 nin0
            have f192 := f49.keep Kq174 nin0
            have f193 := Fpa1.keep Kq174 nin0
            have f194 := Fqa1.keep Kq174 nin0
            have Z195 : n0 ≤ T174.heap.size := Nat.le_trans Z50 Kq174.1
            show Ends p.tables e below (T174.setTop (mkF m 131 #[.val (.int p0), .val (.int p1), .val (.int p2), .val (.int p3), .val (.int p4), .val (.int u), .val (.int v), .val (.int kd), .val (.ref a1), .unset, .unset] [(.ref s3)])) _
            refine s_astore (pc' := 133) X174.here hx (l' := #[.val (.int p0), .val (.int p1), .val (.int p2), .val (.int p3), .val (.int p4), .val (.int u), .val (.int v), .val (.int kd), .val (.ref a1), .val (.ref s3), .unset]) (hb hby at_131) rfl rfl rfl ?_
            refine s_iconst (pc' := 134) X174.here hx (v := (0 : Int32)) (hb hby at_133) rfl rfl ?_
            refine s_istore (pc' := 136) X174.here hx (l' := #[.val (.int p0), .val (.int p1), .val (.int p2), .val (.int p3), .val (.int p4), .val (.int u), .val (.int v), .val (.int kd), .val (.ref a1), .val (.ref s3), .val (.int (0 : Int32))]) (hb hby at_134) rfl rfl ?_
            refine s_goto (pc' := 146) X174.here hx (hb hby at_136) (by decide) (by decide) ?_
            refine s_aload (pc' := 148) X174.here hx (hb hby at_146) rfl rfl rfl ?_
            refine s_aload (pc' := 150) X174.here hx (hb hby at_148) rfl rfl rfl ?_
            refine s_callV (pc' := 153) (W := 0) X174 hx hZ  hown (hw _ (List.mem_of_getElem? (i := 62) rfl)) (hw _ (List.mem_of_getElem? (i := 63) rfl)) (hw _ (List.mem_of_getElem? (i := 2) rfl)) (hw _ (List.mem_of_getElem? (i := 66) rfl)) (hw _ (List.mem_of_getElem? (i := 65) rfl)) (hw _ (List.mem_of_getElem? (i := 64) rfl)) (by decide) rfl f184 (own_eqS l Z a0 hw [] a1 s3 T174.heap n0 Z195 Es3) (by rw [hml]; rfl) [(.ref s3)] [] rfl (lenOf own_pd9 rfl) rfl (Nat.le_of_eq rfl) (by decide) (by decide) (by decide) (by decide) rfl (hb hby at_150) fun T196 v196 Lc196 X196 hQ196 => ?_
            obtain ⟨rfl, Nq196, eh196⟩ := hQ196
            have N196 := Fr.app N174 Nq196
            show Ends p.tables e below (T196.setTop (mkF m 153 #[.val (.int p0), .val (.int p1), .val (.int p2), .val (.int p3), .val (.int p4), .val (.int u), .val (.int v), .val (.int kd), .val (.ref a1), .val (.ref s3), .val (.int (0 : Int32))] [(.int (0 : Int32))])) _
            refine s_iload (pc' := 155) X196.here hx (hb hby at_153) rfl rfl ?_
            have hk197 : (0 : Int32) = (0 : Int32) := rfl
            refine s_icmpNo (pc' := 158) X196.here hx (hb hby at_155) (teq hk197).2 rfl ?_
            refine s_iconst (pc' := 159) X196.here hx (v := (1 : Int32)) (hb hby at_158) rfl rfl ?_
            refine s_goto (pc' := 163) X196.here hx (hb hby at_159) (by decide) (by decide) ?_
            obtain ⟨fs, hr, hrun, hended, hRW⟩ := X196.leaveW hS (show _ ≤ T196.heap.size from by rw [eh196]; exact hk) (v := some (.int (1 : Int32))) (fun h => by rw [Bd.returns] at h; cases h)
            have hfin : CHr Z consts_1 s.vm s.heap T196.vm T196.heap := by rw [hh, eh196]; exact CHr.trans HR181 (CHv.at X196 hZ (own_EW hw) HC182)
            refine ⟨_, _, retN X196 hx (t := .boolean) Bd.returns (by simp) (hb hby at_163) hr, hrun, hended, _, _, rfl, ?_, hfin, own_rwm hRW (by decide) (by decide)⟩
            show own_rm0_Q Z p0 p1 p2 p3 p4 cs h0 n0 _ T196.heap _
            rw [eh196]
            exact ⟨rfl, N196⟩
          · refine s_icmpYes (pc' := 139) X35.here hx (hb hby at_123) (feq hk2_).2 (by decide) (by decide) ?_
            refine s_aload (pc' := 141) X35.here hx (hb hby at_139) rfl rfl rfl ?_
            refine s_astore (pc' := 143) X35.here hx (l' := #[.val (.int p0), .val (.int p1), .val (.int p2), .val (.int p3), .val (.int p4), .val (.int u), .val (.int v), .val (.int kd), .val (.ref a1), .val (.ref a1), .unset]) (hb hby at_141) rfl rfl rfl ?_
            refine s_iconst (pc' := 144) X35.here hx (v := (1 : Int32)) (hb hby at_143) rfl rfl ?_
            refine s_istore (pc' := 146) X35.here hx (l' := #[.val (.int p0), .val (.int p1), .val (.int p2), .val (.int p3), .val (.int p4), .val (.int u), .val (.int v), .val (.int kd), .val (.ref a1), .val (.ref a1), .val (.int (1 : Int32))]) (hb hby at_144) rfl rfl ?_
            refine s_aload (pc' := 148) X35.here hx (hb hby at_146) rfl rfl rfl ?_
            refine s_aload (pc' := 150) X35.here hx (hb hby at_148) rfl rfl rfl ?_
            refine s_callV (pc' := 153) (W := 0) X35 hx hZ  hown (hw _ (List.mem_of_getElem? (i := 62) rfl)) (hw _ (List.mem_of_getElem? (i := 63) rfl)) (hw _ (List.mem_of_getElem? (i := 2) rfl)) (hw _ (List.mem_of_getElem? (i := 66) rfl)) (hw _ (List.mem_of_getElem? (i := 65) rfl)) (hw _ (List.mem_of_getElem? (i := 64) rfl)) (by decide) rfl Ea1 (own_eqA l Z a0 hw [] a1 a1 cs s1 b1 k1 (p0 &&& (3 : Int32)) (own_tx p0) s2 b2 k2 (p1 &&& (3 : Int32)) (own_tx p1) s1 b1 k1 (p0 &&& (3 : Int32)) (own_tx p0) s2 b2 k2 (p1 &&& (3 : Int32)) (own_tx p1) (1 : Int32) (1 : Int32) T35.heap n0 Z50 O40 S_cs hcs Ea1 Fpa1 Fqa1 Fpa1 Fqa1 f42 f43 f44 f45 f46 f47 f48 f49 f42 f43 f44 f45 f46 f47 f48 f49 (Or.inr rfl) ⟨fun _ => ⟨rfl, fun _ _ => rfl⟩, fun _ => rfl⟩ (Or.inr rfl) ⟨fun _ => ⟨rfl, fun _ _ => rfl⟩, fun _ => rfl⟩) (by rw [hml]; rfl) [(.ref a1)] [] rfl (lenOf own_pd9 rfl) rfl (Nat.le_of_eq rfl) (by decide) (by decide) (by decide) (by decide) rfl (hb hby at_150) fun T198 v198 Lc198 X198 hQ198 => ?_
            obtain ⟨rfl, Nq198, eh198⟩ := hQ198
            have N198 := Fr.app N35 Nq198
            show Ends p.tables e below (T198.setTop (mkF m 153 #[.val (.int p0), .val (.int p1), .val (.int p2), .val (.int p3), .val (.int p4), .val (.int u), .val (.int v), .val (.int kd), .val (.ref a1), .val (.ref a1), .val (.int (1 : Int32))] [(.int (if (1 : Int32) = 0 then 0 else (1 : Int32)))])) _
            refine s_iload (pc' := 155) X198.here hx (hb hby at_153) rfl rfl ?_
            have hk199 : (if (1 : Int32) = 0 then 0 else (1 : Int32)) = (1 : Int32) := by decide
            refine s_icmpNo (pc' := 158) X198.here hx (hb hby at_155) (teq hk199).2 rfl ?_
            refine s_iconst (pc' := 159) X198.here hx (v := (1 : Int32)) (hb hby at_158) rfl rfl ?_
            refine s_goto (pc' := 163) X198.here hx (hb hby at_159) (by decide) (by decide) ?_
            obtain ⟨fs, hr, hrun, hended, hRW⟩ := X198.leaveW hS (show _ ≤ T198.heap.size from by rw [eh198]; exact hk) (v := some (.int (1 : Int32))) (fun h => by rw [Bd.returns] at h; cases h)
            have hfin : CHr Z consts_1 s.vm s.heap T198.vm T198.heap := by rw [hh, eh198]; exact CHr.trans HR38 (CHv.at X198 hZ (own_EW hw) HC39)
            refine ⟨_, _, retN X198 hx (t := .boolean) Bd.returns (by simp) (hb hby at_163) hr, hrun, hended, _, _, rfl, ?_, hfin, own_rwm hRW (by decide) (by decide)⟩
            show own_rm0_Q Z p0 p1 p2 p3 p4 cs h0 n0 _ T198.heap _
            rw [eh198]
            exact ⟨rfl, N198⟩
set_option maxRecDepth 65536 in
set_option maxHeartbeats 40000000 in
theorem comes_1 {Post : Tables → Env → Array Value → State → Outcome → State → Prop} (hpost : ∀ tb e args s v u, (limb_1_1.after args s (.returned v) u = true ∧ limb_1_2.after args s (.returned v) u = true ∧ True) → ReturnedEndW s (.returned v) u (Jvm.fieldLocs frame_1_writes args s ++ Jvm.arrayLocs frame_1_arrays args s ++ Jvm.staticLocs frame_1_statics s) 40 1216 → Post tb e args s (.returned v) u) :
    ArmFor flags0 classFile x code maxLocals ret World_1 tables_1 room_1 Calls_1 rest_1 Pre_1 Post := by
  intro l hfl _ _ p e ha hc hk s m args below hf hA hF happ hP
  obtain ⟨hcalls, hrest, hpre⟩ := hP
  obtain ⟨-, -, -, hnamed, -, -, -, hat⟩ := (Spec.applies_iff hf).mp happ
  obtain ⟨hg, hn⟩ := and_e (Cond.before_iff.mp (show (Jvm.Cond.and given_1 narrow_1).before args s = true from hpre))
  obtain ⟨gg2, gg3⟩ := and_e hg
  obtain ⟨gg4, gg5⟩ := and_e gg3
  obtain ⟨gg6, gg7⟩ := and_e gg5
  obtain ⟨gg8, gg9⟩ := and_e gg7
  obtain ⟨gg10, gg11⟩ := and_e gg9
  obtain ⟨w0, w1, w2, w3, w4, rfl⟩ : ∃ w0 w1 w2 w3 w4 : Value, args = #[w0, w1, w2, w3, w4] := by
    have hs : args.size = 5 := by simpa [Cond.value, given_1] using gg2
    obtain ⟨L⟩ := args
    match L, hs with
    | [w0, w1, w2, w3, w4], _ => exact ⟨w0, w1, w2, w3, w4, rfl⟩
  have hw := fun d (hd : d ∈ tables_1) => atoms_spec (ws := Jvm.Cond.code x code maxLocals ret :: tables_1) hat d (List.mem_cons_of_mem _ hd)
  have hfit : Fit s := fun {y c} hc i hi => by
    obtain ⟨ha, rfl⟩ := Array.getElem?_eq_some_iff.mp hc
    have q := List.all_eq_true.mp ((Array.all_eq_true_iff_forall_mem.mp hF) _ (Array.getElem_mem ha)) i (List.mem_range.mpr hi)
    simpa [Array.getElem?_eq_getElem hi] using q
  obtain ⟨hsets, hown0⟩ := atoms_of _ (rest_1_c_eq ▸ (show rest_1_c.before _ s = true from hrest))
  have hr0 := Cond.before_iff.mp hown0
  obtain ⟨i0, ei0⟩ := is_v gg4
  obtain rfl : w0 = (.int i0) := Option.some.inj ei0
  obtain ⟨i1, ei1⟩ := is_v gg6
  obtain rfl : w1 = (.int i1) := Option.some.inj ei1
  obtain ⟨i2, ei2⟩ := is_v gg8
  obtain rfl : w2 = (.int i2) := Option.some.inj ei2
  obtain ⟨i3, ei3⟩ := is_v gg10
  obtain rfl : w3 = (.int i3) := Option.some.inj ei3
  obtain ⟨i4, ei4⟩ := is_v gg11
  obtain rfl : w4 = (.int i4) := Option.some.inj ei4
  obtain ⟨cs, evcs⟩ := is_v (Cond.before_iff.mp (hsets _ (List.mem_of_getElem? (i := 1) rfl)))
  have S_cs := Sta.start evcs (Or.inl (hsets _ (List.mem_of_getElem? (i := 0) rfl)))
  have hcs : ¬ cs = (0 : Int32) := fun q_ => by
    have z_ := (Cond.before_iff.mp (hsets _ (List.mem_of_getElem? (i := 2) rfl)))
    subst q_
    simp [Cond.value, evcs, Term.int_eval] at z_
  have hcv : CHv s consts_1 s.vm s.heap := CHv.start (own_EW hw) (fun p_ hp_ => hcalls.1 p_ hp_) (hsets _ (List.mem_of_getElem? (i := 2) rfl)) (hw _ (List.mem_of_getElem? (i := 25) rfl)) (hw _ (List.mem_of_getElem? (i := 12) rfl))
  obtain ⟨n, o, h1, h2, h3, _, L, rfl, ⟨rfl, N⟩, _, hq⟩ := own_rm0 l s _ hw tables_1 i0 i1 i2 i3 i4 cs s.heap s.heap.size (Nat.le_refl _) (Old.start s) S_cs hcs p e ha hc hk s m _ below hf ((Spec.applies_iff_loose hf).mp happ).1 ⟨rfl, State.Warmed39.refl s, rfl, hcv, fun _ q_ => nomatch q_⟩ trivial
  refine ⟨n, _, h1, h2, h3, hpost _ _ _ _ _ _ ⟨Cond.after_iff.mpr rfl, Cond.after_iff.mpr (eq_i res_at (Term.int_eval (1)) rfl), trivial⟩ ⟨hq.1, hq.2.1, hq.2.2.1, (hq.2.2.2.sift fun y hy => Or.inr (N y hy)).mono (by decide) (by decide)⟩⟩
theorem main_1_1 : Claimed_1_1 := comes_1 fun _ _ _ _ _ _ h hF => ⟨h.1, hF⟩
theorem main_1_2 : Claimed_1_2 := comes_1 fun _ _ _ _ _ _ h hF => ⟨h.2.1, hF⟩
end Jvm.Pilot.@@N@@
namespace Jvm.Pilot.@@N@@
open Jvm Jvm.ClassFile Sem Op Lib Jvm.Free Jvm.Stand Jvm.Pilot.@@N@@.Jvm.D
/-! MADE BY PROGRAM (witnessworld.py) out of the Statement's table words and the real class files: 21 classes; the members and pool entries that the words name. The judged class is class 1, her method 1. -/
namespace start1
open Jvm.ClassFile
def u (s : String) : CpInfo := .utf8 (stringToUtf16 s)
/-- a pool by its gaps: so many unusable entries, then the entry; so many at the end -/
def gap : Nat → List CpInfo → List CpInfo
  | 0, r => r
  | n + 1, r => .unusable :: gap n r
def poolList (es : List (Nat × CpInfo)) (last : Nat) : List CpInfo := es.foldr (fun e r => gap e.1 (e.2 :: r)) (gap last [])
def pool (es : List (Nat × CpInfo)) (last : Nat) : Array CpInfo := ⟨poolList es last⟩
def fileOf (pool : Array CpInfo) (this : Nat) (attrs : Array Attribute := #[]) (ms : Array MethodInfo := #[]) (fl : Nat := 33) (sup : Nat := 0) (ifs : Array Nat := #[]) (fds : Array FieldInfo := #[]) : ClassFile where
  minorVersion := 0
  majorVersion := 65
  constantPool := pool
  accessFlags := fl
  thisClass := this
  superClass := sup
  interfaces := ifs
  fields := fds
  methods := ms
  attributes := attrs
def plain (name : String) (sup : Option ClassId) : Class where
  name := name
  kind := .ordinary
  loader := none
  accessFlags := 33
  super := sup
  interfaces := #[]
  cf := none
  fields := #[]
  methods := #[]
  instanceTypes := #[]
  staticTypes := #[]
  resolved := #[]
  callSites := []
  init := .initialized
  statics := none
  mirror := none

def pool0 : Array CpInfo := pool [(5, u "<init>"), (0, u "()V"), (1, .class_ 10), (1, u "java/lang/Object")] 113

def k0c0 : Code := { maxStack := 0, maxLocals := 1, code := object_method_1_code, exceptionTable := #[], attributes := #[] }
def k0m0 : Method := { name := "<init>", desc := "()V", sig := { parameters := [], returnType := none }, accessFlags := 1, code := some k0c0 }
/-- java/lang/Object -/
def k0 : Class := { plain "java/lang/Object" none with
  accessFlags := 33
  interfaces := #[]
  cf := some (fileOf pool0 8 #[] #[{ accessFlags := 1, nameIndex := 5, descriptorIndex := 6, attributes := #[] }] 33 0 #[] #[])
  fields := #[]
  methods := #[k0m0]
  instanceTypes := #[]
  staticTypes := #[]
  resolved := Array.replicate 124 none
  statics := none }

def pool1 : Array CpInfo := pool [(2, .class_ 4), (1, u "java/lang/Object"), (0, u "<init>"), (0, u "()V"), (0, .class_ 8), (0, u "com/example/vestbook/vestbook/AccountId"), (0, .methodref 10 11), (0, .class_ 12), (0, .nameAndType 13 14), (0, u "com/example/vestbook/vestbook/AccountIdEqualsPinLaw"), (0, u "text"), (0, u "(I)Ljava/lang/String;"), (0, .methodref 7 16), (0, .nameAndType 5 17), (0, u "(Ljava/lang/String;Ljava/lang/String;)V"), (0, .methodref 10 19), (0, .nameAndType 20 21), (0, u "same"), (0, u "(II)Z"), (0, .methodref 7 23), (0, .nameAndType 24 25), (0, u "equals"), (0, u "(Ljava/lang/Object;)Z"), (0, .methodref 10 27), (0, .nameAndType 28 29), (0, u "len"), (0, u "(I)I"), (0, .methodref 10 31), (0, .nameAndType 32 33), (0, u "ch"), (0, u "(II)C"), (0, .class_ 35), (0, u "java/lang/String"), (0, .methodref 34 37), (0, .nameAndType 5 38), (0, u "([C)V"), (2, u "law"), (0, u "(IIIII)Z")] 5

def k1m0 : Method := { name := "<init>", desc := "()V", sig := { parameters := [], returnType := none }, accessFlags := 1, code := none }
def k1c1 : Code := { maxStack := 4, maxLocals := 11, code := code, exceptionTable := #[], attributes := #[] }
def k1m1 : Method := { name := "law", desc := "(IIIII)Z", sig := { parameters := [.int, .int, .int, .int, .int], returnType := some .boolean }, accessFlags := 9, code := some k1c1 }
def k1c2 : Code := { maxStack := 2, maxLocals := 1, code := method_3_code, exceptionTable := #[], attributes := #[] }
def k1m2 : Method := { name := "len", desc := "(I)I", sig := { parameters := [.int], returnType := some .int }, accessFlags := 10, code := some k1c2 }
def k1c3 : Code := { maxStack := 4, maxLocals := 2, code := method_4_code, exceptionTable := #[], attributes := #[] }
def k1m3 : Method := { name := "ch", desc := "(II)C", sig := { parameters := [.int, .int], returnType := some .char }, accessFlags := 10, code := some k1c3 }
def k1c4 : Code := { maxStack := 5, maxLocals := 3, code := method_5_code, exceptionTable := #[], attributes := #[] }
def k1m4 : Method := { name := "text", desc := "(I)Ljava/lang/String;", sig := { parameters := [.int], returnType := some (.object "java/lang/String") }, accessFlags := 10, code := some k1c4 }
def k1c5 : Code := { maxStack := 3, maxLocals := 4, code := method_6_code, exceptionTable := #[], attributes := #[] }
def k1m5 : Method := { name := "same", desc := "(II)Z", sig := { parameters := [.int, .int], returnType := some .boolean }, accessFlags := 10, code := some k1c5 }
/-- com/example/vestbook/vestbook/AccountIdEqualsPinLaw -/
def k1 : Class := { plain "com/example/vestbook/vestbook/AccountIdEqualsPinLaw" (some 0) with
  accessFlags := 49
  interfaces := #[]
  cf := some (fileOf pool1 10 #[] #[{ accessFlags := 1, nameIndex := 5, descriptorIndex := 6, attributes := #[] }, { accessFlags := 9, nameIndex := 41, descriptorIndex := 42, attributes := #[] }, { accessFlags := 10, nameIndex := 28, descriptorIndex := 29, attributes := #[] }, { accessFlags := 10, nameIndex := 32, descriptorIndex := 33, attributes := #[] }, { accessFlags := 10, nameIndex := 13, descriptorIndex := 14, attributes := #[] }, { accessFlags := 10, nameIndex := 20, descriptorIndex := 21, attributes := #[] }] 49 2 #[] #[])
  fields := #[]
  methods := #[k1m0, k1m1, k1m2, k1m3, k1m4, k1m5]
  instanceTypes := #[]
  staticTypes := #[]
  resolved := Array.replicate 48 none
  statics := none }

def pool2 : Array CpInfo := pool [(1, .methodref 2 3), (0, .class_ 4), (0, .nameAndType 5 6), (0, u "java/lang/Object"), (0, u "<init>"), (0, u "()V"), (0, .class_ 8), (0, u "java/lang/Record")] 13

def k2c0 : Code := { maxStack := 1, maxLocals := 1, code := jdk_30_method_1_code, exceptionTable := #[], attributes := #[] }
def k2m0 : Method := { name := "<init>", desc := "()V", sig := { parameters := [], returnType := none }, accessFlags := 4, code := some k2c0 }
/-- java/lang/Record -/
def k2 : Class := { plain "java/lang/Record" (some 0) with
  accessFlags := 1057
  interfaces := #[]
  cf := some (fileOf pool2 7 #[] #[{ accessFlags := 4, nameIndex := 5, descriptorIndex := 6, attributes := #[] }] 1057 2 #[] #[])
  fields := #[]
  methods := #[k2m0]
  instanceTypes := #[]
  staticTypes := #[]
  resolved := Array.replicate 22 none
  statics := none }

def pool3 : Array CpInfo := pool [(1, .class_ 2), (0, u "java/lang/Comparable"), (0, .class_ 4), (0, u "java/lang/Object")] 7

/-- java/lang/Comparable -/
def k3 : Class := { plain "java/lang/Comparable" (some 0) with
  accessFlags := 1537
  interfaces := #[]
  cf := some (fileOf pool3 1 #[] #[] 1537 3 #[] #[])
  fields := #[]
  methods := #[]
  instanceTypes := #[]
  staticTypes := #[]
  resolved := Array.replicate 12 none
  statics := none }

def pool4 : Array CpInfo := pool [(1, .methodref 2 3), (0, .class_ 4), (0, .nameAndType 5 6), (0, u "java/lang/Record"), (0, u "<init>"), (0, u "()V"), (0, .fieldref 8 9), (0, .class_ 10), (0, .nameAndType 11 12), (0, u "com/example/vestbook/vestbook/AccountId"), (0, u "participant"), (0, u "Ljava/lang/String;"), (0, .fieldref 8 14), (0, .nameAndType 15 12), (0, u "account"), (10, u "(Ljava/lang/String;Ljava/lang/String;)V"), (1, .class_ 30), (1, u "java/lang/String"), (2, .methodref 28 34), (0, .nameAndType 35 36), (0, u "equals"), (0, u "(Ljava/lang/Object;)Z"), (36, .class_ 74), (0, u "java/lang/Comparable")] 49

def k4c0 : Code := { maxStack := 2, maxLocals := 3, code := prog_1_method_1_code, exceptionTable := #[], attributes := #[] }
def k4m0 : Method := { name := "<init>", desc := "(Ljava/lang/String;Ljava/lang/String;)V", sig := { parameters := [(.object "java/lang/String"), (.object "java/lang/String")], returnType := none }, accessFlags := 0, code := some k4c0 }
def k4c1 : Code := { maxStack := 2, maxLocals := 3, code := prog_1_method_4_code, exceptionTable := #[], attributes := #[] }
def k4m1 : Method := { name := "equals", desc := "(Ljava/lang/Object;)Z", sig := { parameters := [(.object "java/lang/Object")], returnType := some .boolean }, accessFlags := 1, code := some k4c1 }
/-- com/example/vestbook/vestbook/AccountId -/
def k4 : Class := { plain "com/example/vestbook/vestbook/AccountId" (some 2) with
  accessFlags := 48
  interfaces := #[3]
  cf := some (fileOf pool4 8 #[] #[{ accessFlags := 0, nameIndex := 5, descriptorIndex := 26, attributes := #[] }, { accessFlags := 1, nameIndex := 35, descriptorIndex := 36, attributes := #[] }] 48 2 #[73] #[{ accessFlags := 18, nameIndex := 11, descriptorIndex := 12, attributes := #[] }, { accessFlags := 18, nameIndex := 15, descriptorIndex := 12, attributes := #[] }])
  fields := #[{ name := "participant", type := (.object "java/lang/String"), accessFlags := 18, slot := 0, constantValue := 0 }, { name := "account", type := (.object "java/lang/String"), accessFlags := 18, slot := 1, constantValue := 0 }]
  methods := #[k4m0, k4m1]
  instanceTypes := #[(.object "java/lang/String"), (.object "java/lang/String")]
  staticTypes := #[]
  resolved := Array.replicate 124 none
  statics := none }

def pool5 : Array CpInfo := pool [(1, .class_ 2), (0, u "java/io/Serializable"), (0, .class_ 4), (0, u "java/lang/Object")] 2

/-- java/io/Serializable -/
def k5 : Class := { plain "java/io/Serializable" (some 0) with
  accessFlags := 1537
  interfaces := #[]
  cf := some (fileOf pool5 1 #[] #[] 1537 3 #[] #[])
  fields := #[]
  methods := #[]
  instanceTypes := #[]
  staticTypes := #[]
  resolved := Array.replicate 7 none
  statics := none }

def pool6 : Array CpInfo := pool [(2, .class_ 4), (1, u "java/lang/CharSequence"), (42, .class_ 48), (0, u "java/lang/CharSequence$1CodePointIterator"), (10, .class_ 60), (0, u "java/lang/CharSequence$1CharIterator"), (5, .class_ 67), (0, u "java/lang/Object")] 63

/-- java/lang/CharSequence -/
def k6 : Class := { plain "java/lang/CharSequence" (some 0) with
  accessFlags := 1537
  interfaces := #[]
  cf := some (fileOf pool6 2 #[.nestMembers #[47, 59]] #[] 1537 66 #[] #[])
  fields := #[]
  methods := #[]
  instanceTypes := #[]
  staticTypes := #[]
  resolved := Array.replicate 131 none
  statics := none }

def pool7 : Array CpInfo := pool [(1, .class_ 2), (0, u "java/lang/constant/Constable"), (0, .class_ 4), (0, u "java/lang/Object")] 6

/-- java/lang/constant/Constable -/
def k7 : Class := { plain "java/lang/constant/Constable" (some 0) with
  accessFlags := 1537
  interfaces := #[]
  cf := some (fileOf pool7 1 #[] #[] 1537 3 #[] #[])
  fields := #[]
  methods := #[]
  instanceTypes := #[]
  staticTypes := #[]
  resolved := Array.replicate 11 none
  statics := none }

def pool8 : Array CpInfo := pool [(1, .class_ 2), (0, u "java/lang/constant/ConstantDesc"), (0, .class_ 4), (0, u "java/lang/Object")] 32

/-- java/lang/constant/ConstantDesc -/
def k8 : Class := { plain "java/lang/constant/ConstantDesc" (some 0) with
  accessFlags := 1537
  interfaces := #[]
  cf := some (fileOf pool8 1 #[] #[] 1537 3 #[] #[])
  fields := #[]
  methods := #[]
  instanceTypes := #[]
  staticTypes := #[]
  resolved := Array.replicate 37 none
  statics := none }

def pool9 : Array CpInfo := pool [(1, .methodref 2 3), (0, .class_ 4), (0, .nameAndType 5 6), (0, u "java/lang/Object"), (0, u "<init>"), (0, u "()V"), (0, .string 8), (0, u ""), (0, .fieldref 10 11), (0, .class_ 12), (0, .nameAndType 13 14), (0, u "java/lang/String"), (0, u "value"), (0, u "[B"), (0, .fieldref 10 16), (0, .nameAndType 17 18), (0, u "coder"), (0, u "B"), (2, u "hash"), (0, u "I"), (2, u "hashIsZero"), (0, u "Z"), (0, .methodref 10 28), (0, .nameAndType 5 29), (0, u "([CIILjava/lang/Void;)V"), (8, .fieldref 10 39), (0, .nameAndType 40 26), (0, u "COMPACT_STRINGS"), (1, .class_ 44), (1, u "java/lang/StringUTF16"), (0, u "compress"), (1, .methodref 42 48), (0, .nameAndType 49 50), (0, u "coderFromArrayLen"), (0, u "([BI)B"), (56, .class_ 109), (1, u "java/lang/StringLatin1"), (67, .methodref 42 178), (0, .nameAndType 45 179), (0, u "([CII)[B"), (361, .methodref 107 542), (0, .nameAndType 543 544), (0, u "equals"), (0, u "([B[B)Z"), (28, u "(Ljava/lang/Object;)Z"), (1, .class_ 576), (0, u "java/lang/CharSequence"), (22, u "CASE_INSENSITIVE_ORDER"), (0, u "Ljava/util/Comparator;"), (409, u "([C)V"), (90, u "serialPersistentFields"), (0, u "[Ljava/io/ObjectStreamField;"), (0, .class_ 1104), (0, u "java/lang/String$CaseInsensitiveComparator"), (1, .class_ 1107), (0, u "java/io/Serializable"), (0, .class_ 1109), (0, u "java/lang/Comparable"), (0, .class_ 1111), (0, u "java/lang/constant/Constable"), (0, .class_ 1113), (0, u "java/lang/constant/ConstantDesc"), (2, u "serialVersionUID"), (0, u "J"), (3, u "REPL"), (0, u "C"), (2, u "LATIN1"), (1, u "UTF16")] 323

def k9m0 : Method := { name := "<init>", desc := "()V", sig := { parameters := [], returnType := none }, accessFlags := 1, code := none }
def k9c1 : Code := { maxStack := 5, maxLocals := 2, code := jdk_42_method_3_code, exceptionTable := #[], attributes := #[] }
def k9m1 : Method := { name := "<init>", desc := "([C)V", sig := { parameters := [(.array .char)], returnType := none }, accessFlags := 1, code := some k9c1 }
def k9c2 : Code := { maxStack := 2, maxLocals := 3, code := jdk_42_method_66_code, exceptionTable := #[], attributes := #[] }
def k9m2 : Method := { name := "equals", desc := "(Ljava/lang/Object;)Z", sig := { parameters := [(.object "java/lang/Object")], returnType := some .boolean }, accessFlags := 1, code := some k9c2 }
def k9c3 : Code := { maxStack := 4, maxLocals := 6, code := jdk_42_method_149_code, exceptionTable := #[], attributes := #[] }
def k9m3 : Method := { name := "<init>", desc := "([CIILjava/lang/Void;)V", sig := { parameters := [(.array .char), .int, .int, (.object "java/lang/Void")], returnType := none }, accessFlags := 2, code := some k9c3 }
/-- java/lang/String -/
def k9 : Class := { plain "java/lang/String" (some 0) with
  accessFlags := 49
  interfaces := #[5, 3, 6, 7, 8]
  cf := some (fileOf pool9 10 #[.nestMembers #[1103]] #[{ accessFlags := 1, nameIndex := 5, descriptorIndex := 6, attributes := #[] }, { accessFlags := 1, nameIndex := 5, descriptorIndex := 1010, attributes := #[] }, { accessFlags := 1, nameIndex := 543, descriptorIndex := 573, attributes := #[] }, { accessFlags := 2, nameIndex := 5, descriptorIndex := 29, attributes := #[] }] 49 2 #[1106, 1108, 575, 1110, 1112] #[{ accessFlags := 18, nameIndex := 13, descriptorIndex := 14, attributes := #[] }, { accessFlags := 18, nameIndex := 17, descriptorIndex := 18, attributes := #[] }, { accessFlags := 2, nameIndex := 21, descriptorIndex := 22, attributes := #[] }, { accessFlags := 2, nameIndex := 25, descriptorIndex := 26, attributes := #[] }, { accessFlags := 26, nameIndex := 1116, descriptorIndex := 1117, attributes := #[] }, { accessFlags := 24, nameIndex := 40, descriptorIndex := 26, attributes := #[] }, { accessFlags := 26, nameIndex := 1101, descriptorIndex := 1102, attributes := #[] }, { accessFlags := 26, nameIndex := 1121, descriptorIndex := 1122, attributes := #[] }, { accessFlags := 25, nameIndex := 599, descriptorIndex := 600, attributes := #[] }, { accessFlags := 24, nameIndex := 1125, descriptorIndex := 18, attributes := #[] }, { accessFlags := 24, nameIndex := 1127, descriptorIndex := 18, attributes := #[] }])
  fields := #[{ name := "value", type := (.array .byte), accessFlags := 18, slot := 0, constantValue := 0 }, { name := "coder", type := .byte, accessFlags := 18, slot := 1, constantValue := 0 }, { name := "hash", type := .int, accessFlags := 2, slot := 2, constantValue := 0 }, { name := "hashIsZero", type := .boolean, accessFlags := 2, slot := 3, constantValue := 0 }, { name := "serialVersionUID", type := .long, accessFlags := 26, slot := 0, constantValue := 0 }, { name := "COMPACT_STRINGS", type := .boolean, accessFlags := 24, slot := 1, constantValue := 0 }, { name := "serialPersistentFields", type := (.array (.object "java/io/ObjectStreamField")), accessFlags := 26, slot := 2, constantValue := 0 }, { name := "REPL", type := .char, accessFlags := 26, slot := 3, constantValue := 0 }, { name := "CASE_INSENSITIVE_ORDER", type := (.object "java/util/Comparator"), accessFlags := 25, slot := 4, constantValue := 0 }, { name := "LATIN1", type := .byte, accessFlags := 24, slot := 5, constantValue := 0 }, { name := "UTF16", type := .byte, accessFlags := 24, slot := 6, constantValue := 0 }]
  methods := #[k9m0, k9m1, k9m2, k9m3]
  instanceTypes := #[(.array .byte), .byte, .int, .boolean]
  staticTypes := #[.long, .boolean, (.array (.object "java/io/ObjectStreamField")), .char, (.object "java/util/Comparator"), .byte, .byte]
  resolved := Array.replicate 1451 none
  statics := some 0 }

def pool10 : Array CpInfo := pool [(6, .class_ 8), (1, u "java/lang/Object"), (0, u "<init>"), (0, u "()V"), (1, .class_ 14), (1, u "java/lang/StringUTF16"), (31, u "$assertionsDisabled"), (0, u "Z"), (13, u "HI_BYTE_SHIFT"), (0, u "I"), (2, u "LO_BYTE_SHIFT"), (49, .methodref 12 116), (0, .nameAndType 117 118), (0, u "compress"), (0, u "([CI[BII)I"), (3, u "([CII)[B"), (138, u "coderFromArrayLen"), (0, u "([BI)B"), (106, .class_ 371), (1, u "java/lang/StringUTF16$LinesSpliterator"), (58, u "MAX_LENGTH"), (196, .class_ 628), (0, u "java/lang/StringUTF16$CodePointsSpliterator"), (0, .class_ 630), (0, u "java/lang/StringUTF16$CharsSpliterator")] 4

def k10m0 : Method := { name := "<init>", desc := "()V", sig := { parameters := [], returnType := none }, accessFlags := 0, code := none }
def k10c1 : Code := { maxStack := 2, maxLocals := 2, code := jdk_52_method_15_code, exceptionTable := #[], attributes := #[] }
def k10m1 : Method := { name := "coderFromArrayLen", desc := "([BI)B", sig := { parameters := [(.array .byte), .int], returnType := some .byte }, accessFlags := 8, code := some k10c1 }
def k10c2 : Code := { maxStack := 5, maxLocals := 6, code := jdk_52_method_16_code, exceptionTable := #[], attributes := #[] }
def k10m2 : Method := { name := "compress", desc := "([CII)[B", sig := { parameters := [(.array .char), .int, .int], returnType := some (.array .byte) }, accessFlags := 9, code := some k10c2 }
def k10c3 : Code := { maxStack := 3, maxLocals := 7, code := jdk_52_method_21_code, exceptionTable := #[], attributes := #[] }
def k10m3 : Method := { name := "compress", desc := "([CI[BII)I", sig := { parameters := [(.array .char), .int, (.array .byte), .int, .int], returnType := some .int }, accessFlags := 9, code := some k10c3 }
/-- java/lang/StringUTF16 -/
def k10 : Class := { plain "java/lang/StringUTF16" (some 0) with
  accessFlags := 48
  interfaces := #[]
  cf := some (fileOf pool10 12 #[.nestMembers #[627, 629, 369]] #[{ accessFlags := 0, nameIndex := 9, descriptorIndex := 10, attributes := #[] }, { accessFlags := 8, nameIndex := 261, descriptorIndex := 262, attributes := #[] }, { accessFlags := 9, nameIndex := 117, descriptorIndex := 122, attributes := #[] }, { accessFlags := 9, nameIndex := 117, descriptorIndex := 118, attributes := #[] }] 48 6 #[] #[{ accessFlags := 26, nameIndex := 61, descriptorIndex := 62, attributes := #[] }, { accessFlags := 26, nameIndex := 65, descriptorIndex := 62, attributes := #[] }, { accessFlags := 24, nameIndex := 430, descriptorIndex := 62, attributes := #[] }, { accessFlags := 4120, nameIndex := 46, descriptorIndex := 47, attributes := #[] }])
  fields := #[{ name := "HI_BYTE_SHIFT", type := .int, accessFlags := 26, slot := 0, constantValue := 0 }, { name := "LO_BYTE_SHIFT", type := .int, accessFlags := 26, slot := 1, constantValue := 0 }, { name := "MAX_LENGTH", type := .int, accessFlags := 24, slot := 2, constantValue := 0 }, { name := "$assertionsDisabled", type := .boolean, accessFlags := 4120, slot := 3, constantValue := 0 }]
  methods := #[k10m0, k10m1, k10m2, k10m3]
  instanceTypes := #[]
  staticTypes := #[.int, .int, .int, .boolean]
  resolved := Array.replicate 635 none
  statics := none }

def pool11 : Array CpInfo := pool [(4, .class_ 6), (1, u "java/lang/Object"), (0, u "<init>"), (0, u "()V"), (5, .class_ 16), (1, u "java/lang/StringLatin1"), (104, u "$assertionsDisabled"), (0, u "Z"), (98, .class_ 223), (1, u "java/lang/StringLatin1$LinesSpliterator"), (57, u "equals"), (0, u "([B[B)Z"), (107, .class_ 391), (0, u "java/lang/StringLatin1$CharsSpliterator")] 3

def k11m0 : Method := { name := "<init>", desc := "()V", sig := { parameters := [], returnType := none }, accessFlags := 0, code := none }
def k11c1 : Code := { maxStack := 3, maxLocals := 3, code := jdk_43_method_13_code, exceptionTable := #[], attributes := #[] }
def k11m1 : Method := { name := "equals", desc := "([B[B)Z", sig := { parameters := [(.array .byte), (.array .byte)], returnType := some .boolean }, accessFlags := 9, code := some k11c1 }
/-- java/lang/StringLatin1 -/
def k11 : Class := { plain "java/lang/StringLatin1" (some 0) with
  accessFlags := 48
  interfaces := #[]
  cf := some (fileOf pool11 14 #[.nestMembers #[390, 221]] #[{ accessFlags := 0, nameIndex := 7, descriptorIndex := 8, attributes := #[] }, { accessFlags := 9, nameIndex := 281, descriptorIndex := 282, attributes := #[] }] 48 4 #[] #[{ accessFlags := 4120, nameIndex := 121, descriptorIndex := 122, attributes := #[] }])
  fields := #[{ name := "$assertionsDisabled", type := .boolean, accessFlags := 4120, slot := 0, constantValue := 0 }]
  methods := #[k11m0, k11m1]
  instanceTypes := #[]
  staticTypes := #[.boolean]
  resolved := Array.replicate 395 none
  statics := none }

def pool12 : Array CpInfo := pool [(2, .class_ 4), (1, u "java/lang/Object"), (0, u "<init>"), (0, u "()V"), (17, .class_ 26), (1, u "jdk/internal/util/Preconditions"), (28, .class_ 56), (0, u "jdk/internal/util/Preconditions$4"), (57, .class_ 115), (0, u "jdk/internal/util/Preconditions$1"), (7, u "SIOOBE_FORMATTER"), (0, u "Ljava/util/function/BiFunction;"), (0, .class_ 126), (0, u "jdk/internal/util/Preconditions$2"), (3, u "AIOOBE_FORMATTER"), (0, .class_ 132), (0, u "jdk/internal/util/Preconditions$3"), (3, u "IOOBE_FORMATTER")] 57

def k12m0 : Method := { name := "<init>", desc := "()V", sig := { parameters := [], returnType := none }, accessFlags := 1, code := none }
/-- jdk/internal/util/Preconditions -/
def k12 : Class := { plain "jdk/internal/util/Preconditions" (some 0) with
  accessFlags := 33
  interfaces := #[]
  cf := some (fileOf pool12 24 #[.nestMembers #[55, 131, 125, 114]] #[{ accessFlags := 1, nameIndex := 5, descriptorIndex := 6, attributes := #[] }] 33 2 #[] #[{ accessFlags := 25, nameIndex := 123, descriptorIndex := 124, attributes := #[] }, { accessFlags := 25, nameIndex := 130, descriptorIndex := 124, attributes := #[] }, { accessFlags := 25, nameIndex := 136, descriptorIndex := 124, attributes := #[] }])
  fields := #[{ name := "SIOOBE_FORMATTER", type := (.object "java/util/function/BiFunction"), accessFlags := 25, slot := 0, constantValue := 0 }, { name := "AIOOBE_FORMATTER", type := (.object "java/util/function/BiFunction"), accessFlags := 25, slot := 1, constantValue := 0 }, { name := "IOOBE_FORMATTER", type := (.object "java/util/function/BiFunction"), accessFlags := 25, slot := 2, constantValue := 0 }]
  methods := #[k12m0]
  instanceTypes := #[]
  staticTypes := #[(.object "java/util/function/BiFunction"), (.object "java/util/function/BiFunction"), (.object "java/util/function/BiFunction")]
  resolved := Array.replicate 194 none
  statics := some 1 }

def pool13 : Array CpInfo := pool [(9, u "<init>"), (6, .class_ 18), (1, u "java/lang/Object"), (0, u "()V"), (1, .class_ 23), (1, u "jdk/internal/util/ArraysSupport"), (0, u "LOG2_ARRAY_LONG_INDEX_SCALE"), (0, u "I"), (2, u "U"), (0, u "Ljdk/internal/misc/Unsafe;"), (8, u "BIG_ENDIAN"), (0, u "Z"), (8, u "LOG2_BYTE_BIT_SIZE"), (4, u "LOG2_ARRAY_INT_INDEX_SCALE"), (54, u "JLA"), (0, u "Ljdk/internal/access/JavaLangAccess;"), (11, u "LOG2_ARRAY_BOOLEAN_INDEX_SCALE"), (9, u "LOG2_ARRAY_BYTE_INDEX_SCALE"), (5, u "LOG2_ARRAY_CHAR_INDEX_SCALE"), (5, u "LOG2_ARRAY_SHORT_INDEX_SCALE"), (18, u "LOG2_ARRAY_FLOAT_INDEX_SCALE"), (24, u "LOG2_ARRAY_DOUBLE_INDEX_SCALE"), (89, u "T_BOOLEAN"), (2, u "T_CHAR"), (1, u "T_FLOAT"), (1, u "T_DOUBLE"), (1, u "T_BYTE"), (1, u "T_SHORT"), (1, u "T_INT"), (1, u "T_LONG"), (1, u "SOFT_MAX_ARRAY_LENGTH")] 83

def k13m0 : Method := { name := "<init>", desc := "()V", sig := { parameters := [], returnType := none }, accessFlags := 2, code := none }
/-- jdk/internal/util/ArraysSupport -/
def k13 : Class := { plain "jdk/internal/util/ArraysSupport" (some 0) with
  accessFlags := 33
  interfaces := #[]
  cf := some (fileOf pool13 21 #[] #[{ accessFlags := 2, nameIndex := 9, descriptorIndex := 19, attributes := #[] }] 33 16 #[] #[{ accessFlags := 24, nameIndex := 28, descriptorIndex := 29, attributes := #[] }, { accessFlags := 26, nameIndex := 38, descriptorIndex := 39, attributes := #[] }, { accessFlags := 25, nameIndex := 121, descriptorIndex := 25, attributes := #[] }, { accessFlags := 25, nameIndex := 131, descriptorIndex := 25, attributes := #[] }, { accessFlags := 25, nameIndex := 137, descriptorIndex := 25, attributes := #[] }, { accessFlags := 25, nameIndex := 143, descriptorIndex := 25, attributes := #[] }, { accessFlags := 25, nameIndex := 53, descriptorIndex := 25, attributes := #[] }, { accessFlags := 25, nameIndex := 24, descriptorIndex := 25, attributes := #[] }, { accessFlags := 25, nameIndex := 162, descriptorIndex := 25, attributes := #[] }, { accessFlags := 25, nameIndex := 187, descriptorIndex := 25, attributes := #[] }, { accessFlags := 26, nameIndex := 48, descriptorIndex := 25, attributes := #[] }, { accessFlags := 25, nameIndex := 277, descriptorIndex := 25, attributes := #[] }, { accessFlags := 25, nameIndex := 280, descriptorIndex := 25, attributes := #[] }, { accessFlags := 25, nameIndex := 282, descriptorIndex := 25, attributes := #[] }, { accessFlags := 25, nameIndex := 284, descriptorIndex := 25, attributes := #[] }, { accessFlags := 25, nameIndex := 286, descriptorIndex := 25, attributes := #[] }, { accessFlags := 25, nameIndex := 288, descriptorIndex := 25, attributes := #[] }, { accessFlags := 25, nameIndex := 290, descriptorIndex := 25, attributes := #[] }, { accessFlags := 25, nameIndex := 292, descriptorIndex := 25, attributes := #[] }, { accessFlags := 26, nameIndex := 108, descriptorIndex := 109, attributes := #[] }, { accessFlags := 25, nameIndex := 294, descriptorIndex := 25, attributes := #[] }])
  fields := #[{ name := "U", type := (.object "jdk/internal/misc/Unsafe"), accessFlags := 24, slot := 0, constantValue := 0 }, { name := "BIG_ENDIAN", type := .boolean, accessFlags := 26, slot := 1, constantValue := 0 }, { name := "LOG2_ARRAY_BOOLEAN_INDEX_SCALE", type := .int, accessFlags := 25, slot := 2, constantValue := 0 }, { name := "LOG2_ARRAY_BYTE_INDEX_SCALE", type := .int, accessFlags := 25, slot := 3, constantValue := 0 }, { name := "LOG2_ARRAY_CHAR_INDEX_SCALE", type := .int, accessFlags := 25, slot := 4, constantValue := 0 }, { name := "LOG2_ARRAY_SHORT_INDEX_SCALE", type := .int, accessFlags := 25, slot := 5, constantValue := 0 }, { name := "LOG2_ARRAY_INT_INDEX_SCALE", type := .int, accessFlags := 25, slot := 6, constantValue := 0 }, { name := "LOG2_ARRAY_LONG_INDEX_SCALE", type := .int, accessFlags := 25, slot := 7, constantValue := 0 }, { name := "LOG2_ARRAY_FLOAT_INDEX_SCALE", type := .int, accessFlags := 25, slot := 8, constantValue := 0 }, { name := "LOG2_ARRAY_DOUBLE_INDEX_SCALE", type := .int, accessFlags := 25, slot := 9, constantValue := 0 }, { name := "LOG2_BYTE_BIT_SIZE", type := .int, accessFlags := 26, slot := 10, constantValue := 0 }, { name := "T_BOOLEAN", type := .int, accessFlags := 25, slot := 11, constantValue := 0 }, { name := "T_CHAR", type := .int, accessFlags := 25, slot := 12, constantValue := 0 }, { name := "T_FLOAT", type := .int, accessFlags := 25, slot := 13, constantValue := 0 }, { name := "T_DOUBLE", type := .int, accessFlags := 25, slot := 14, constantValue := 0 }, { name := "T_BYTE", type := .int, accessFlags := 25, slot := 15, constantValue := 0 }, { name := "T_SHORT", type := .int, accessFlags := 25, slot := 16, constantValue := 0 }, { name := "T_INT", type := .int, accessFlags := 25, slot := 17, constantValue := 0 }, { name := "T_LONG", type := .int, accessFlags := 25, slot := 18, constantValue := 0 }, { name := "JLA", type := (.object "jdk/internal/access/JavaLangAccess"), accessFlags := 26, slot := 19, constantValue := 0 }, { name := "SOFT_MAX_ARRAY_LENGTH", type := .int, accessFlags := 25, slot := 20, constantValue := 0 }]
  methods := #[k13m0]
  instanceTypes := #[]
  staticTypes := #[(.object "jdk/internal/misc/Unsafe"), .boolean, .int, .int, .int, .int, .int, .int, .int, .int, .int, .int, .int, .int, .int, .int, .int, .int, .int, (.object "jdk/internal/access/JavaLangAccess"), .int]
  resolved := Array.replicate 378 none
  statics := none }

def pool14 : Array CpInfo := pool [(1, u "java/lang/Cloneable"), (0, .class_ 1), (0, u "java/lang/Object"), (0, .class_ 3)] 3

/-- java/lang/Cloneable -/
def k14 : Class := { plain "java/lang/Cloneable" (some 0) with
  accessFlags := 1537
  interfaces := #[]
  cf := some (fileOf pool14 2 #[] #[] 1537 4 #[] #[])
  fields := #[]
  methods := #[]
  instanceTypes := #[]
  staticTypes := #[]
  resolved := Array.replicate 8 none
  statics := none }

/-- the primitive byte -/
def k15 : Class := { plain "byte" none with kind := .primitive 'B', accessFlags := 0x411 }
/-- [B -/
def k16 : Class := { plain "[B" (some 0) with kind := .array 15 .byte, interfaces := #[14, 5], accessFlags := 1041 }

/-- the primitive char -/
def k17 : Class := { plain "char" none with kind := .primitive 'C', accessFlags := 0x411 }
/-- [C -/
def k18 : Class := { plain "[C" (some 0) with kind := .array 17 .char, interfaces := #[14, 5], accessFlags := 1041 }

/-- the primitive int -/
def k19 : Class := { plain "int" none with kind := .primitive 'I', accessFlags := 0x411 }
/-- [I -/
def k20 : Class := { plain "[I" (some 0) with kind := .array 19 .int, interfaces := #[14, 5], accessFlags := 1041 }

def heap : Heap := #[{ cls := 9, slots := #[.long 0, .int 1, .null, .int 0, .null, .int 0, .int 0], vm := .statics 9 },
  { cls := 12, slots := #[.null, .null, .null], vm := .statics 12 }]
def classes : Array Class := #[k0, k1, k2, k3, k4, k5, k6, k7, k8, k9, k10, k11, k12, k13, k14, k15, k16, k17, k18, k19, k20]
def interned : List (Array UInt16 × Addr) := []
def slotsUsed : Nat := 10
def theMethod : MethodId := ⟨1, 1⟩
def args0 : Array Value := #[.int 5, .int 7, .int 5, .int 7, .int 3]
def aboutOver (below : List Frame) : State where
  vm := { classes := classes, interned := interned.toArray }
  heap := heap
  slotsUsed := slotsUsed
  threads := #[{ frames := .invoking theMethod args0 :: below }]
def below0 : List Frame := [.native { method := ⟨0, 0⟩, args := #[] }]
def about1 : State := aboutOver below0
def p0 : Program := .bare "" "" ""
def e0 : Env := launch0.env 0 0 0
theorem w_frames : about1.frames = Frame.invoking theMethod args0 :: below0 := rfl
set_option maxRecDepth 65536 in
theorem w_args : argsFit about1.vm theMethod args0 = true := by decide +kernel
set_option maxRecDepth 65536 in
theorem w_heap : heapFits about1 = true := by decide +kernel
set_option maxRecDepth 65536 in
theorem w_runnable : about1.curStatus? = some .runnable := by decide +kernel
set_option maxRecDepth 65536 in
theorem w_alone : about1.alone = true := by decide +kernel
set_option maxRecDepth 65536 in
theorem w_named : about1.methodNamed? x = some theMethod := by decide +kernel
set_option maxRecDepth 65536 in
theorem w_hears : about1.hears theMethod below0 = true := by decide +kernel
set_option maxRecDepth 65536 in
theorem w_ripe : about1.ripe theMethod args0 below0 = true := by decide +kernel
theorem w_running : about1.status = .running := rfl
set_option maxRecDepth 65536 in
theorem w_room : about1.hasRoom e0.platform room_1 = true :=
  launch0.hasRoom_least _ room_1 (by decide +kernel) (by decide +kernel) (by decide +kernel) (by decide +kernel) (by decide +kernel) (by decide +kernel)
theorem allAtoms_all (ts : List Jvm.Cond) (a : Array Jvm.Value) (st : Jvm.State) : (allAtoms ts).before a st = ts.all (fun c => c.before a st) := by
  induction ts with
  | nil => rfl
  | cons c t ih =>
    show (Jvm.Cond.and c (allAtoms t)).before a st = _
    rw [Jvm.Cond.before_and, ih, List.all_cons]
def words1 : List Jvm.Cond := Jvm.Cond.code x code maxLocals ret :: tables_1
/-- a 'code' word, met by the world's own term for the bytes: nothing is compared byte by byte -/
theorem code_word {y : MethodName} {bytes : ByteArray} {mx : Nat} {rt : Option FieldType} {a : Array Value} {s : State} {m : MethodId} {meth : Method} {c : Code} (h1 : s.methodNamed? y = some m) (h2 : s.vm.method? m = some meth) (h3 : meth.code = some c) (h4 : c.code = bytes)
    (h5 : (c.maxLocals == mx && c.exceptionTable.isEmpty && decide (c.maxStack ≤ mostOperands) && decide (meth.sig.returnType = rt) && !meth.locks && decide (parseMethodDescriptor y.desc = some meth.sig)) = true) : (Jvm.Cond.code y bytes mx rt).before a s = true := by
  simp only [Bool.and_eq_true, beq_iff_eq, Bool.not_eq_true', decide_eq_true_eq] at h5
  obtain ⟨⟨⟨⟨⟨g1, g2⟩, g3⟩, g4⟩, g5⟩, g6⟩ := h5
  simp [Cond.before, Cond.holds, Cond.value, h1, h2, h3, h4, g1, g2, g3, g4, g5, g6]
def isCode : Jvm.Cond → Bool
  | .code _ _ _ _ => true
  | _ => false
theorem all_split {L : List Jvm.Cond} {P : Jvm.Cond → Bool} (h1 : L.all (fun c => isCode c || P c) = true) (h2 : ∀ c ∈ L.filter isCode, P c = true) : L.all P = true := by
  refine List.all_eq_true.mpr fun c hc => ?_
  have h := List.all_eq_true.mp h1 c hc
  rcases Bool.eq_false_or_eq_true (isCode c) with hi | hi
  · exact h2 c (List.mem_filter.mpr ⟨hc, hi⟩)
  · simpa [hi] using h
set_option maxRecDepth 65536 in
theorem w_c0 : (Jvm.Cond.code x code maxLocals ret).before args0 about1 = true := code_word (m := ⟨1, 1⟩) (meth := k1m1) (c := k1c1) (by decide +kernel) rfl rfl rfl (by decide +kernel)
set_option maxRecDepth 65536 in
theorem w_c1 : (Jvm.Cond.code ({ cls := "com/example/vestbook/vestbook/AccountIdEqualsPinLaw", name := "text", desc := "(I)Ljava/lang/String;" } : Jvm.MethodName) method_5_code (3 : Nat) (Option.some (Jvm.ClassFile.FieldType.object "java/lang/String"))).before args0 about1 = true := code_word (m := ⟨1, 4⟩) (meth := k1m4) (c := k1c4) (by decide +kernel) rfl rfl rfl (by decide +kernel)
set_option maxRecDepth 65536 in
theorem w_c2 : (Jvm.Cond.code ({ cls := "com/example/vestbook/vestbook/AccountIdEqualsPinLaw", name := "len", desc := "(I)I" } : Jvm.MethodName) method_3_code (1 : Nat) (Option.some Jvm.ClassFile.FieldType.int)).before args0 about1 = true := code_word (m := ⟨1, 2⟩) (meth := k1m2) (c := k1c2) (by decide +kernel) rfl rfl rfl (by decide +kernel)
set_option maxRecDepth 65536 in
theorem w_c3 : (Jvm.Cond.code ({ cls := "java/lang/String", name := "<init>", desc := "([C)V" } : Jvm.MethodName) jdk_42_method_3_code (2 : Nat) (Option.none : Option Jvm.ClassFile.FieldType)).before args0 about1 = true := code_word (m := ⟨9, 1⟩) (meth := k9m1) (c := k9c1) (by decide +kernel) rfl rfl rfl (by decide +kernel)
set_option maxRecDepth 65536 in
theorem w_c4 : (Jvm.Cond.code ({ cls := "java/lang/String", name := "<init>", desc := "([CIILjava/lang/Void;)V" } : Jvm.MethodName) jdk_42_method_149_code (6 : Nat) (Option.none : Option Jvm.ClassFile.FieldType)).before args0 about1 = true := code_word (m := ⟨9, 3⟩) (meth := k9m3) (c := k9c3) (by decide +kernel) rfl rfl rfl (by decide +kernel)
set_option maxRecDepth 65536 in
theorem w_c5 : (Jvm.Cond.code ({ cls := "java/lang/Object", name := "<init>", desc := "()V" } : Jvm.MethodName) object_method_1_code (1 : Nat) (Option.none : Option Jvm.ClassFile.FieldType)).before args0 about1 = true := code_word (m := ⟨0, 0⟩) (meth := k0m0) (c := k0c0) (by decide +kernel) rfl rfl rfl (by decide +kernel)
set_option maxRecDepth 65536 in
theorem w_c6 : (Jvm.Cond.code ({ cls := "com/example/vestbook/vestbook/AccountIdEqualsPinLaw", name := "ch", desc := "(II)C" } : Jvm.MethodName) method_4_code (2 : Nat) (Option.some Jvm.ClassFile.FieldType.char)).before args0 about1 = true := code_word (m := ⟨1, 3⟩) (meth := k1m3) (c := k1c3) (by decide +kernel) rfl rfl rfl (by decide +kernel)
set_option maxRecDepth 65536 in
theorem w_c7 : (Jvm.Cond.code ({ cls := "java/lang/StringUTF16", name := "compress", desc := "([CII)[B" } : Jvm.MethodName) jdk_52_method_16_code (6 : Nat) (Option.some (Jvm.ClassFile.FieldType.array Jvm.ClassFile.FieldType.byte))).before args0 about1 = true := code_word (m := ⟨10, 2⟩) (meth := k10m2) (c := k10c2) (by decide +kernel) rfl rfl rfl (by decide +kernel)
set_option maxRecDepth 65536 in
theorem w_c8 : (Jvm.Cond.code ({ cls := "java/lang/StringUTF16", name := "compress", desc := "([CI[BII)I" } : Jvm.MethodName) jdk_52_method_21_code (7 : Nat) (Option.some Jvm.ClassFile.FieldType.int)).before args0 about1 = true := code_word (m := ⟨10, 3⟩) (meth := k10m3) (c := k10c3) (by decide +kernel) rfl rfl rfl (by decide +kernel)
set_option maxRecDepth 65536 in
theorem w_c9 : (Jvm.Cond.code ({ cls := "java/lang/StringUTF16", name := "coderFromArrayLen", desc := "([BI)B" } : Jvm.MethodName) jdk_52_method_15_code (2 : Nat) (Option.some Jvm.ClassFile.FieldType.byte)).before args0 about1 = true := code_word (m := ⟨10, 1⟩) (meth := k10m1) (c := k10c1) (by decide +kernel) rfl rfl rfl (by decide +kernel)
set_option maxRecDepth 65536 in
theorem w_c10 : (Jvm.Cond.code ({ cls := "com/example/vestbook/vestbook/AccountId", name := "<init>", desc := "(Ljava/lang/String;Ljava/lang/String;)V" } : Jvm.MethodName) prog_1_method_1_code (3 : Nat) (Option.none : Option Jvm.ClassFile.FieldType)).before args0 about1 = true := code_word (m := ⟨4, 0⟩) (meth := k4m0) (c := k4c0) (by decide +kernel) rfl rfl rfl (by decide +kernel)
set_option maxRecDepth 65536 in
theorem w_c11 : (Jvm.Cond.code ({ cls := "java/lang/Record", name := "<init>", desc := "()V" } : Jvm.MethodName) jdk_30_method_1_code (1 : Nat) (Option.none : Option Jvm.ClassFile.FieldType)).before args0 about1 = true := code_word (m := ⟨2, 0⟩) (meth := k2m0) (c := k2c0) (by decide +kernel) rfl rfl rfl (by decide +kernel)
set_option maxRecDepth 65536 in
theorem w_c12 : (Jvm.Cond.code ({ cls := "com/example/vestbook/vestbook/AccountIdEqualsPinLaw", name := "same", desc := "(II)Z" } : Jvm.MethodName) method_6_code (4 : Nat) (Option.some Jvm.ClassFile.FieldType.boolean)).before args0 about1 = true := code_word (m := ⟨1, 5⟩) (meth := k1m5) (c := k1c5) (by decide +kernel) rfl rfl rfl (by decide +kernel)
set_option maxRecDepth 65536 in
theorem w_c13 : (Jvm.Cond.code ({ cls := "com/example/vestbook/vestbook/AccountId", name := "equals", desc := "(Ljava/lang/Object;)Z" } : Jvm.MethodName) prog_1_method_4_code (3 : Nat) (Option.some Jvm.ClassFile.FieldType.boolean)).before args0 about1 = true := code_word (m := ⟨4, 1⟩) (meth := k4m1) (c := k4c1) (by decide +kernel) rfl rfl rfl (by decide +kernel)
set_option maxRecDepth 65536 in
theorem w_c14 : (Jvm.Cond.code ({ cls := "java/lang/String", name := "equals", desc := "(Ljava/lang/Object;)Z" } : Jvm.MethodName) jdk_42_method_66_code (3 : Nat) (Option.some Jvm.ClassFile.FieldType.boolean)).before args0 about1 = true := code_word (m := ⟨9, 2⟩) (meth := k9m2) (c := k9c2) (by decide +kernel) rfl rfl rfl (by decide +kernel)
set_option maxRecDepth 65536 in
theorem w_c15 : (Jvm.Cond.code ({ cls := "java/lang/StringLatin1", name := "equals", desc := "([B[B)Z" } : Jvm.MethodName) jdk_43_method_13_code (3 : Nat) (Option.some Jvm.ClassFile.FieldType.boolean)).before args0 about1 = true := code_word (m := ⟨11, 1⟩) (meth := k11m1) (c := k11c1) (by decide +kernel) rfl rfl rfl (by decide +kernel)
def codes1 : List Jvm.Cond := [Jvm.Cond.code x code maxLocals ret, Jvm.Cond.code ({ cls := "com/example/vestbook/vestbook/AccountIdEqualsPinLaw", name := "text", desc := "(I)Ljava/lang/String;" } : Jvm.MethodName) method_5_code (3 : Nat) (Option.some (Jvm.ClassFile.FieldType.object "java/lang/String")), Jvm.Cond.code ({ cls := "com/example/vestbook/vestbook/AccountIdEqualsPinLaw", name := "len", desc := "(I)I" } : Jvm.MethodName) method_3_code (1 : Nat) (Option.some Jvm.ClassFile.FieldType.int), Jvm.Cond.code ({ cls := "java/lang/String", name := "<init>", desc := "([C)V" } : Jvm.MethodName) jdk_42_method_3_code (2 : Nat) (Option.none : Option Jvm.ClassFile.FieldType), Jvm.Cond.code ({ cls := "java/lang/String", name := "<init>", desc := "([CIILjava/lang/Void;)V" } : Jvm.MethodName) jdk_42_method_149_code (6 : Nat) (Option.none : Option Jvm.ClassFile.FieldType), Jvm.Cond.code ({ cls := "java/lang/Object", name := "<init>", desc := "()V" } : Jvm.MethodName) object_method_1_code (1 : Nat) (Option.none : Option Jvm.ClassFile.FieldType), Jvm.Cond.code ({ cls := "com/example/vestbook/vestbook/AccountIdEqualsPinLaw", name := "ch", desc := "(II)C" } : Jvm.MethodName) method_4_code (2 : Nat) (Option.some Jvm.ClassFile.FieldType.char), Jvm.Cond.code ({ cls := "java/lang/StringUTF16", name := "compress", desc := "([CII)[B" } : Jvm.MethodName) jdk_52_method_16_code (6 : Nat) (Option.some (Jvm.ClassFile.FieldType.array Jvm.ClassFile.FieldType.byte)), Jvm.Cond.code ({ cls := "java/lang/StringUTF16", name := "compress", desc := "([CI[BII)I" } : Jvm.MethodName) jdk_52_method_21_code (7 : Nat) (Option.some Jvm.ClassFile.FieldType.int), Jvm.Cond.code ({ cls := "java/lang/StringUTF16", name := "coderFromArrayLen", desc := "([BI)B" } : Jvm.MethodName) jdk_52_method_15_code (2 : Nat) (Option.some Jvm.ClassFile.FieldType.byte), Jvm.Cond.code ({ cls := "com/example/vestbook/vestbook/AccountId", name := "<init>", desc := "(Ljava/lang/String;Ljava/lang/String;)V" } : Jvm.MethodName) prog_1_method_1_code (3 : Nat) (Option.none : Option Jvm.ClassFile.FieldType), Jvm.Cond.code ({ cls := "java/lang/Record", name := "<init>", desc := "()V" } : Jvm.MethodName) jdk_30_method_1_code (1 : Nat) (Option.none : Option Jvm.ClassFile.FieldType), Jvm.Cond.code ({ cls := "com/example/vestbook/vestbook/AccountIdEqualsPinLaw", name := "same", desc := "(II)Z" } : Jvm.MethodName) method_6_code (4 : Nat) (Option.some Jvm.ClassFile.FieldType.boolean), Jvm.Cond.code ({ cls := "com/example/vestbook/vestbook/AccountId", name := "equals", desc := "(Ljava/lang/Object;)Z" } : Jvm.MethodName) prog_1_method_4_code (3 : Nat) (Option.some Jvm.ClassFile.FieldType.boolean), Jvm.Cond.code ({ cls := "java/lang/String", name := "equals", desc := "(Ljava/lang/Object;)Z" } : Jvm.MethodName) jdk_42_method_66_code (3 : Nat) (Option.some Jvm.ClassFile.FieldType.boolean), Jvm.Cond.code ({ cls := "java/lang/StringLatin1", name := "equals", desc := "([B[B)Z" } : Jvm.MethodName) jdk_43_method_13_code (3 : Nat) (Option.some Jvm.ClassFile.FieldType.boolean)]
set_option maxRecDepth 65536 in
theorem codes_eq : words1.filter isCode = codes1 := rfl
theorem w_codes : ∀ c ∈ words1.filter isCode, c.before args0 about1 = true := by
  rw [codes_eq]
  intro c hc
  simp only [codes1, List.mem_cons, List.not_mem_nil, or_false] at hc
  rcases hc with rfl | rfl | rfl | rfl | rfl | rfl | rfl | rfl | rfl | rfl | rfl | rfl | rfl | rfl | rfl | rfl
  · exact w_c0
  · exact w_c1
  · exact w_c2
  · exact w_c3
  · exact w_c4
  · exact w_c5
  · exact w_c6
  · exact w_c7
  · exact w_c8
  · exact w_c9
  · exact w_c10
  · exact w_c11
  · exact w_c12
  · exact w_c13
  · exact w_c14
  · exact w_c15
set_option maxRecDepth 65536 in
theorem w_t1 : (words1.take 24).all (fun c => isCode c || c.before args0 about1) = true := by decide +kernel
set_option maxRecDepth 65536 in
theorem w_t2 : ((words1.drop 24).take 24).all (fun c => isCode c || c.before args0 about1) = true := by decide +kernel
set_option maxRecDepth 65536 in
theorem w_t3 : (((words1.drop 24).drop 24).take 24).all (fun c => isCode c || c.before args0 about1) = true := by decide +kernel
set_option maxRecDepth 65536 in
theorem w_t4 : (((words1.drop 24).drop 24).drop 24).all (fun c => isCode c || c.before args0 about1) = true := by decide +kernel
theorem w_tables : (allAtoms (Jvm.Cond.code x code maxLocals ret :: tables_1)).before args0 about1 = true := by
  rw [allAtoms_all]
  show words1.all (fun c => c.before args0 about1) = true
  refine all_split ?_ w_codes
  rw [← List.take_append_drop 24 words1, List.all_append, w_t1, ← List.take_append_drop 24 (words1.drop 24), List.all_append, w_t2, ← List.take_append_drop 24 ((words1.drop 24).drop 24), List.all_append, w_t3, w_t4]
  rfl
set_option maxRecDepth 65536 in
theorem w_rest : rest_1_c.before args0 about1 = true := by decide +kernel
set_option maxRecDepth 65536 in
theorem w_case : (Jvm.Cond.and given_1 narrow_1).before args0 about1 = true := by decide +kernel
set_option maxRecDepth 65536 in
theorem w_consts : constsHeld consts_1 about1 := Jvm.Lit.constsHeldB_iff.mp (by decide +kernel)
theorem w_applies : (headSpec (Jvm.Cond.code x code maxLocals ret :: tables_1) room_1).applies x e0.platform about1 = true :=
  (Spec.applies_iff w_frames).mpr ⟨w_running, w_runnable, w_alone, w_named, w_hears, w_ripe, w_room, w_tables⟩
theorem atStart : AtStart classFile x code maxLocals ret World_1 tables_1 room_1 Calls_1 rest_1 Pre_1 launch0 p0 e0 about1 theMethod args0 below0 :=
  ⟨lists_1, trivial, launch0.admits_env _ _ _, launch0.least_env, fairChoices_fair.cas, fairChoices_fair.clock, w_frames, w_args, w_heap, w_applies, ⟨w_consts, trivial⟩, w_rest, w_case⟩
end start1
theorem witness_1 : WitnessClaimed_1 := ⟨start1.p0, start1.e0, start1.about1, start1.theMethod, start1.args0, start1.below0, start1.atStart⟩
end Jvm.Pilot.@@N@@
