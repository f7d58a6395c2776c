import JvmDerived
import JvmDerived.Pilot.@@N@@Statement
import JvmDerived.Pilot.@@N@@Code
set_option linter.unusedVariables false
set_option linter.unusedSimpArgs false

namespace Jvm.Pilot.@@N@@
open Jvm Jvm.ClassFile Sem Op Lib Jvm.Free Jvm.Stand Jvm.LawKit Jvm.RoadKit Bundle Jvm.Pilot.@@N@@.Jvm.D
/-- from S the run comes to an end of which P holds -/
abbrev Ends (tb : Tables) (e : Env) (below : List Frame) (S : State) (P : State → Outcome → Prop) : Prop := ∃ t o, Steps tb e below S t ∧ P t o
theorem own_via {tb : Tables} {e : Env} {below : List Frame} {S S' : State} {P : State → Outcome → Prop} (h : ∀ t, Steps tb e below S' t → Steps tb e below S t) (k : Ends tb e below S' P) : Ends tb e below S P := by
  obtain ⟨t, o, a, b⟩ := k
  exact ⟨t, o, h t a, b⟩
theorem own_begin {tb : Tables} {e : Env} {below : List Frame} {T : State} {g g' : JFrame} {P : State → Outcome → Prop} (q : g = g') (k : Ends tb e below (T.setTop g') P) : ∃ t o, Steps tb e below (T.setTop g) t ∧ P t o := by
  subst q
  exact k
/-- several roads come to one place -/
theorem own_join {tb : Tables} {e : Env} {below : List Frame} {S0 : State} {P : State → Outcome → Prop} {α : Type} (S : α → State) (H : α → Prop) (k1 : (∀ w, H w → Ends tb e below (S w) P) → Ends tb e below S0 P) (k2 : ∀ w, H w → Ends tb e below (S w) P) : Ends tb e below S0 P := k1 k2
theorem own_rwm {s t : State} {o : Outcome} {L : List Loc} {k n k' n' : Nat} (h : ReturnedEndW s o t L k n) (h1 : k ≤ k') (h2 : n ≤ n') : ReturnedEndW s o t L k' n' := ⟨h.1, h.2.1, h.2.2.1, h.2.2.2.mono h1 h2⟩
theorem own_narR {v : Value} {C : String} (h : v.isRef = true) : narrow (.object C) v = v := by cases v <;> first | rfl | (simp [Value.isRef] at h)
theorem own_fitR {v : Value} {C : String} (h : v.isRef = true) : fits (.object C) v = true := by cases v <;> first | rfl | (simp [Value.isRef] at h)
theorem own_catR {v : Value} (h : v.isRef = true) : v.category = 1 := by cases v <;> first | rfl | (simp [Value.isRef] at h)
theorem own_selPriv {s : State} {args : Array Value} {y z : MethodName} (hz : z.cls = y.cls) (hsel : (Jvm.Cond.selects z.cls z z).before args s = true) (hpriv : s.PrivateAt y) (hinst : (Jvm.Cond.instanceMethod y).before args s = true) (hy : y.cls ≠ "java/lang/invoke/MethodHandle" ∧ y.cls ≠ "java/lang/invoke/VarHandle") : (Jvm.Cond.selects y.cls y y).before args s = true := by
  obtain ⟨c2, r2, m2, -, -, q3, -, kP, hkP, hkPi⟩ := Cond.selects_spec hsel
  exact selects_self_of_private (hz ▸ findClass_of_methodNamed q3) hkP hkPi hpriv hinst hy
section OwnSteps
variable {tb : Tables} [Ours tb] {e : Env} {below : List Frame} {T : State} {m : MethodId} {c : Code} {P : State → Outcome → Prop} {pc pc' : Nat} {ls l' : Array Slot} {st : List Value}
theorem s_iload (h : At T m c below) (hx : tb.exec = Jvm.exec) {k : Nat} {v : Int32} (hd : decode c.code pc = .ok (.iload k, 2)) (hl : ls[k]? = some (.val (.int v))) (hp : pc + 2 = pc') (hr : Ends tb e below (T.setTop (mkF m pc' ls (.int v :: st))) P) : Ends tb e below (T.setTop (mkF m pc ls st)) P := by
  subst hp
  exact own_via (fun t_ k_ => XS.iload h hx rfl hd hl k_) hr
theorem s_istore (h : At T m c below) (hx : tb.exec = Jvm.exec) {k : Nat} {v : Int32} (hd : decode c.code pc = .ok (.istore k, 2)) (hl : storeLocals ls k (.int v) = some l') (hp : pc + 2 = pc') (hr : Ends tb e below (T.setTop (mkF m pc' l' st)) P) : Ends tb e below (T.setTop (mkF m pc ls (.int v :: st))) P := by
  subst hp
  exact own_via (fun t_ k_ => XS.istore h hx rfl hd rfl hl k_) hr
theorem s_iloadN (h : At T m c below) (hx : tb.exec = Jvm.exec) {k : Fin 4} {v : Int32} (hd : decode c.code pc = .ok (.iload_n k, 1)) (hl : ls[k.val]? = some (.val (.int v))) (hp : pc + 1 = pc') (hr : Ends tb e below (T.setTop (mkF m pc' ls (.int v :: st))) P) : Ends tb e below (T.setTop (mkF m pc ls st)) P := by
  subst hp
  exact own_via (fun t_ k_ => XS.iloadN h hx rfl hd hl k_) hr
theorem s_istoreN (h : At T m c below) (hx : tb.exec = Jvm.exec) {k : Fin 4} {v : Int32} (hd : decode c.code pc = .ok (.istore_n k, 1)) (hl : storeLocals ls k.val (.int v) = some l') (hp : pc + 1 = pc') (hr : Ends tb e below (T.setTop (mkF m pc' l' st)) P) : Ends tb e below (T.setTop (mkF m pc ls (.int v :: st))) P := by
  subst hp
  exact own_via (fun t_ k_ => XS.istoreN h hx rfl hd rfl hl k_) hr
theorem s_lload (h : At T m c below) (hx : tb.exec = Jvm.exec) {k : Nat} {v : Int64} (hd : decode c.code pc = .ok (.lload k, 2)) (hl : ls[k]? = some (.val (.long v))) (hp : pc + 2 = pc') (hr : Ends tb e below (T.setTop (mkF m pc' ls (.long v :: st))) P) : Ends tb e below (T.setTop (mkF m pc ls st)) P := by
  subst hp
  exact own_via (fun t_ k_ => XS.lload h hx rfl hd hl k_) hr
theorem s_lstore (h : At T m c below) (hx : tb.exec = Jvm.exec) {k : Nat} {v : Int64} (hd : decode c.code pc = .ok (.lstore k, 2)) (hl : storeLocals ls k (.long v) = some l') (hp : pc + 2 = pc') (hr : Ends tb e below (T.setTop (mkF m pc' l' st)) P) : Ends tb e below (T.setTop (mkF m pc ls (.long v :: st))) P := by
  subst hp
  exact own_via (fun t_ k_ => XS.lstore h hx rfl hd rfl hl k_) hr
theorem s_lloadN (h : At T m c below) (hx : tb.exec = Jvm.exec) {k : Fin 4} {v : Int64} (hd : decode c.code pc = .ok (.lload_n k, 1)) (hl : ls[k.val]? = some (.val (.long v))) (hp : pc + 1 = pc') (hr : Ends tb e below (T.setTop (mkF m pc' ls (.long v :: st))) P) : Ends tb e below (T.setTop (mkF m pc ls st)) P := by
  subst hp
  exact own_via (fun t_ k_ => XS.lloadN h hx rfl hd hl k_) hr
theorem s_lstoreN (h : At T m c below) (hx : tb.exec = Jvm.exec) {k : Fin 4} {v : Int64} (hd : decode c.code pc = .ok (.lstore_n k, 1)) (hl : storeLocals ls k.val (.long v) = some l') (hp : pc + 1 = pc') (hr : Ends tb e below (T.setTop (mkF m pc' l' st)) P) : Ends tb e below (T.setTop (mkF m pc ls (.long v :: st))) P := by
  subst hp
  exact own_via (fun t_ k_ => XS.lstoreN h hx rfl hd rfl hl k_) hr
theorem s_dload (h : At T m c below) (hx : tb.exec = Jvm.exec) {k : Nat} {v : UInt64} (hd : decode c.code pc = .ok (.dload k, 2)) (hl : ls[k]? = some (.val (.double v))) (hp : pc + 2 = pc') (hr : Ends tb e below (T.setTop (mkF m pc' ls (.double v :: st))) P) : Ends tb e below (T.setTop (mkF m pc ls st)) P := by
  subst hp
  exact own_via (fun t_ k_ => XS.dload h hx rfl hd hl k_) hr
theorem s_dstore (h : At T m c below) (hx : tb.exec = Jvm.exec) {k : Nat} {v : UInt64} (hd : decode c.code pc = .ok (.dstore k, 2)) (hl : storeLocals ls k (.double v) = some l') (hp : pc + 2 = pc') (hr : Ends tb e below (T.setTop (mkF m pc' l' st)) P) : Ends tb e below (T.setTop (mkF m pc ls (.double v :: st))) P := by
  subst hp
  exact own_via (fun t_ k_ => XS.dstore h hx rfl hd rfl hl k_) hr
theorem s_dloadN (h : At T m c below) (hx : tb.exec = Jvm.exec) {k : Fin 4} {v : UInt64} (hd : decode c.code pc = .ok (.dload_n k, 1)) (hl : ls[k.val]? = some (.val (.double v))) (hp : pc + 1 = pc') (hr : Ends tb e below (T.setTop (mkF m pc' ls (.double v :: st))) P) : Ends tb e below (T.setTop (mkF m pc ls st)) P := by
  subst hp
  exact own_via (fun t_ k_ => XS.dloadN h hx rfl hd hl k_) hr
theorem s_dstoreN (h : At T m c below) (hx : tb.exec = Jvm.exec) {k : Fin 4} {v : UInt64} (hd : decode c.code pc = .ok (.dstore_n k, 1)) (hl : storeLocals ls k.val (.double v) = some l') (hp : pc + 1 = pc') (hr : Ends tb e below (T.setTop (mkF m pc' l' st)) P) : Ends tb e below (T.setTop (mkF m pc ls (.double v :: st))) P := by
  subst hp
  exact own_via (fun t_ k_ => XS.dstoreN h hx rfl hd rfl hl k_) hr
theorem s_aload (h : At T m c below) (hx : tb.exec = Jvm.exec) {k : Nat} {v : Value} (hd : decode c.code pc = .ok (.aload k, 2)) (hl : ls[k]? = some (.val v)) (hv : v.isRef = true) (hp : pc + 2 = pc') (hr : Ends tb e below (T.setTop (mkF m pc' ls (v :: st))) P) : Ends tb e below (T.setTop (mkF m pc ls st)) P := by
  subst hp
  exact own_via (fun t_ k_ => XS.aload h hx rfl hd hl hv k_) hr
theorem s_astore (h : At T m c below) (hx : tb.exec = Jvm.exec) {k : Nat} {v : Value} (hd : decode c.code pc = .ok (.astore k, 2)) (hv : v.isRef = true) (hl : storeLocals ls k v = some l') (hp : pc + 2 = pc') (hr : Ends tb e below (T.setTop (mkF m pc' l' st)) P) : Ends tb e below (T.setTop (mkF m pc ls (v :: st))) P := by
  subst hp
  exact own_via (fun t_ k_ => XS.astore h hx rfl hd rfl hv hl k_) hr
theorem s_aloadN (h : At T m c below) (hx : tb.exec = Jvm.exec) {k : Fin 4} {v : Value} (hd : decode c.code pc = .ok (.aload_n k, 1)) (hl : ls[k.val]? = some (.val v)) (hv : v.isRef = true) (hp : pc + 1 = pc') (hr : Ends tb e below (T.setTop (mkF m pc' ls (v :: st))) P) : Ends tb e below (T.setTop (mkF m pc ls st)) P := by
  subst hp
  exact own_via (fun t_ k_ => XS.aloadN h hx rfl hd hl hv k_) hr
theorem s_astoreN (h : At T m c below) (hx : tb.exec = Jvm.exec) {k : Fin 4} {v : Value} (hd : decode c.code pc = .ok (.astore_n k, 1)) (hv : v.isRef = true) (hl : storeLocals ls k.val v = some l') (hp : pc + 1 = pc') (hr : Ends tb e below (T.setTop (mkF m pc' l' st)) P) : Ends tb e below (T.setTop (mkF m pc ls (v :: st))) P := by
  subst hp
  exact own_via (fun t_ k_ => XS.astoreN h hx rfl hd rfl hv hl k_) hr
theorem s_iconst (h : At T m c below) (hx : tb.exec = Jvm.exec) {i : Int} {v : Int32} (hd : decode c.code pc = .ok (.iconst i, 1)) (hv : Int32.ofInt i = v) (hp : pc + 1 = pc') (hr : Ends tb e below (T.setTop (mkF m pc' ls (.int v :: st))) P) : Ends tb e below (T.setTop (mkF m pc ls st)) P := by
  subst hp hv
  exact own_via (fun t_ k_ => XS.iconst h hx rfl hd k_) hr
theorem s_bipush (h : At T m c below) (hx : tb.exec = Jvm.exec) {i : Int} {v : Int32} (hd : decode c.code pc = .ok (.bipush i, 2)) (hv : (Int8.ofInt i).toInt32 = v) (hp : pc + 2 = pc') (hr : Ends tb e below (T.setTop (mkF m pc' ls (.int v :: st))) P) : Ends tb e below (T.setTop (mkF m pc ls st)) P := by
  subst hp hv
  exact own_via (fun t_ k_ => XS.bipush h hx rfl hd k_) hr
theorem s_sipush (h : At T m c below) (hx : tb.exec = Jvm.exec) {i : Int} {v : Int32} (hd : decode c.code pc = .ok (.sipush i, 3)) (hv : (Int16.ofInt i).toInt32 = v) (hp : pc + 3 = pc') (hr : Ends tb e below (T.setTop (mkF m pc' ls (.int v :: st))) P) : Ends tb e below (T.setTop (mkF m pc ls st)) P := by
  subst hp hv
  exact own_via (fun t_ k_ => XS.sipush h hx rfl hd k_) hr
theorem s_lconst (h : At T m c below) (hx : tb.exec = Jvm.exec) {i : Fin 2} {v : Int64} (hd : decode c.code pc = .ok (.lconst i, 1)) (hv : Int64.ofNat i = v) (hp : pc + 1 = pc') (hr : Ends tb e below (T.setTop (mkF m pc' ls (.long v :: st))) P) : Ends tb e below (T.setTop (mkF m pc ls st)) P := by
  subst hp hv
  exact own_via (fun t_ k_ => XS.lconst h hx rfl hd k_) hr
theorem s_aconstNull (h : At T m c below) (hx : tb.exec = Jvm.exec)  (hd : decode c.code pc = .ok (.aconst_null, 1))  (hp : pc + 1 = pc') (hr : Ends tb e below (T.setTop (mkF m pc' ls (.null :: st))) P) : Ends tb e below (T.setTop (mkF m pc ls st)) P := by
  subst hp
  exact own_via (fun t_ k_ => XS.aconstNull h hx rfl hd k_) hr
theorem s_iadd (h : At T m c below) (hx : tb.exec = Jvm.exec) {x y : Int32} (hd : decode c.code pc = .ok (.iadd, 1))  (hp : pc + 1 = pc') (hr : Ends tb e below (T.setTop (mkF m pc' ls (.int (x + y) :: st))) P) : Ends tb e below (T.setTop (mkF m pc ls (.int y :: .int x :: st))) P := by
  subst hp
  exact own_via (fun t_ k_ => XS.iadd h hx rfl hd rfl k_) hr
theorem s_isub (h : At T m c below) (hx : tb.exec = Jvm.exec) {x y : Int32} (hd : decode c.code pc = .ok (.isub, 1))  (hp : pc + 1 = pc') (hr : Ends tb e below (T.setTop (mkF m pc' ls (.int (x - y) :: st))) P) : Ends tb e below (T.setTop (mkF m pc ls (.int y :: .int x :: st))) P := by
  subst hp
  exact own_via (fun t_ k_ => XS.isub h hx rfl hd rfl k_) hr
theorem s_imul (h : At T m c below) (hx : tb.exec = Jvm.exec) {x y : Int32} (hd : decode c.code pc = .ok (.imul, 1))  (hp : pc + 1 = pc') (hr : Ends tb e below (T.setTop (mkF m pc' ls (.int (x * y) :: st))) P) : Ends tb e below (T.setTop (mkF m pc ls (.int y :: .int x :: st))) P := by
  subst hp
  exact own_via (fun t_ k_ => XS.imul h hx rfl hd rfl k_) hr
theorem s_iand (h : At T m c below) (hx : tb.exec = Jvm.exec) {x y : Int32} (hd : decode c.code pc = .ok (.iand, 1))  (hp : pc + 1 = pc') (hr : Ends tb e below (T.setTop (mkF m pc' ls (.int (x &&& y) :: st))) P) : Ends tb e below (T.setTop (mkF m pc ls (.int y :: .int x :: st))) P := by
  subst hp
  exact own_via (fun t_ k_ => XS.iand h hx rfl hd rfl k_) hr
theorem s_ior (h : At T m c below) (hx : tb.exec = Jvm.exec) {x y : Int32} (hd : decode c.code pc = .ok (.ior, 1))  (hp : pc + 1 = pc') (hr : Ends tb e below (T.setTop (mkF m pc' ls (.int (x ||| y) :: st))) P) : Ends tb e below (T.setTop (mkF m pc ls (.int y :: .int x :: st))) P := by
  subst hp
  exact own_via (fun t_ k_ => XS.ior h hx rfl hd rfl k_) hr
theorem s_ixor (h : At T m c below) (hx : tb.exec = Jvm.exec) {x y : Int32} (hd : decode c.code pc = .ok (.ixor, 1))  (hp : pc + 1 = pc') (hr : Ends tb e below (T.setTop (mkF m pc' ls (.int (x ^^^ y) :: st))) P) : Ends tb e below (T.setTop (mkF m pc ls (.int y :: .int x :: st))) P := by
  subst hp
  exact own_via (fun t_ k_ => XS.ixor h hx rfl hd rfl k_) hr
theorem s_ishl (h : At T m c below) (hx : tb.exec = Jvm.exec) {x y : Int32} (hd : decode c.code pc = .ok (.ishl, 1))  (hp : pc + 1 = pc') (hr : Ends tb e below (T.setTop (mkF m pc' ls (.int (x <<< (y &&& 31)) :: st))) P) : Ends tb e below (T.setTop (mkF m pc ls (.int y :: .int x :: st))) P := by
  subst hp
  exact own_via (fun t_ k_ => XS.ishl h hx rfl hd rfl k_) hr
theorem s_ishr (h : At T m c below) (hx : tb.exec = Jvm.exec) {x y : Int32} (hd : decode c.code pc = .ok (.ishr, 1))  (hp : pc + 1 = pc') (hr : Ends tb e below (T.setTop (mkF m pc' ls (.int (x >>> (y &&& 31)) :: st))) P) : Ends tb e below (T.setTop (mkF m pc ls (.int y :: .int x :: st))) P := by
  subst hp
  exact own_via (fun t_ k_ => XS.ishr h hx rfl hd rfl k_) hr
theorem s_iushr (h : At T m c below) (hx : tb.exec = Jvm.exec) {x y : Int32} (hd : decode c.code pc = .ok (.iushr, 1))  (hp : pc + 1 = pc') (hr : Ends tb e below (T.setTop (mkF m pc' ls (.int ((x.toUInt32 >>> (y &&& 31).toUInt32).toInt32) :: st))) P) : Ends tb e below (T.setTop (mkF m pc ls (.int y :: .int x :: st))) P := by
  subst hp
  exact own_via (fun t_ k_ => XS.iushr h hx rfl hd rfl k_) hr
theorem s_ladd (h : At T m c below) (hx : tb.exec = Jvm.exec) {x y : Int64} (hd : decode c.code pc = .ok (.ladd, 1))  (hp : pc + 1 = pc') (hr : Ends tb e below (T.setTop (mkF m pc' ls (.long (x + y) :: st))) P) : Ends tb e below (T.setTop (mkF m pc ls (.long y :: .long x :: st))) P := by
  subst hp
  exact own_via (fun t_ k_ => XS.ladd h hx rfl hd rfl k_) hr
theorem s_lsub (h : At T m c below) (hx : tb.exec = Jvm.exec) {x y : Int64} (hd : decode c.code pc = .ok (.lsub, 1))  (hp : pc + 1 = pc') (hr : Ends tb e below (T.setTop (mkF m pc' ls (.long (x - y) :: st))) P) : Ends tb e below (T.setTop (mkF m pc ls (.long y :: .long x :: st))) P := by
  subst hp
  exact own_via (fun t_ k_ => XS.lsub h hx rfl hd rfl k_) hr
theorem s_lmul (h : At T m c below) (hx : tb.exec = Jvm.exec) {x y : Int64} (hd : decode c.code pc = .ok (.lmul, 1))  (hp : pc + 1 = pc') (hr : Ends tb e below (T.setTop (mkF m pc' ls (.long (x * y) :: st))) P) : Ends tb e below (T.setTop (mkF m pc ls (.long y :: .long x :: st))) P := by
  subst hp
  exact own_via (fun t_ k_ => XS.lmul h hx rfl hd rfl k_) hr
theorem s_land (h : At T m c below) (hx : tb.exec = Jvm.exec) {x y : Int64} (hd : decode c.code pc = .ok (.land, 1))  (hp : pc + 1 = pc') (hr : Ends tb e below (T.setTop (mkF m pc' ls (.long (x &&& y) :: st))) P) : Ends tb e below (T.setTop (mkF m pc ls (.long y :: .long x :: st))) P := by
  subst hp
  exact own_via (fun t_ k_ => XS.land h hx rfl hd rfl k_) hr
theorem s_lor (h : At T m c below) (hx : tb.exec = Jvm.exec) {x y : Int64} (hd : decode c.code pc = .ok (.lor, 1))  (hp : pc + 1 = pc') (hr : Ends tb e below (T.setTop (mkF m pc' ls (.long (x ||| y) :: st))) P) : Ends tb e below (T.setTop (mkF m pc ls (.long y :: .long x :: st))) P := by
  subst hp
  exact own_via (fun t_ k_ => XS.lor h hx rfl hd rfl k_) hr
theorem s_lxor (h : At T m c below) (hx : tb.exec = Jvm.exec) {x y : Int64} (hd : decode c.code pc = .ok (.lxor, 1))  (hp : pc + 1 = pc') (hr : Ends tb e below (T.setTop (mkF m pc' ls (.long (x ^^^ y) :: st))) P) : Ends tb e below (T.setTop (mkF m pc ls (.long y :: .long x :: st))) P := by
  subst hp
  exact own_via (fun t_ k_ => XS.lxor h hx rfl hd rfl k_) hr
theorem s_lshl (h : At T m c below) (hx : tb.exec = Jvm.exec) {x : Int64} {y : Int32} (hd : decode c.code pc = .ok (.lshl, 1))  (hp : pc + 1 = pc') (hr : Ends tb e below (T.setTop (mkF m pc' ls (.long (x <<< (y &&& 0x3f).toInt64) :: st))) P) : Ends tb e below (T.setTop (mkF m pc ls (.int y :: .long x :: st))) P := by
  subst hp
  exact own_via (fun t_ k_ => XS.lshl h hx rfl hd rfl k_) hr
theorem s_lshr (h : At T m c below) (hx : tb.exec = Jvm.exec) {x : Int64} {y : Int32} (hd : decode c.code pc = .ok (.lshr, 1))  (hp : pc + 1 = pc') (hr : Ends tb e below (T.setTop (mkF m pc' ls (.long (x >>> (y &&& 0x3f).toInt64) :: st))) P) : Ends tb e below (T.setTop (mkF m pc ls (.int y :: .long x :: st))) P := by
  subst hp
  exact own_via (fun t_ k_ => XS.lshr h hx rfl hd rfl k_) hr
theorem s_lushr (h : At T m c below) (hx : tb.exec = Jvm.exec) {x : Int64} {y : Int32} (hd : decode c.code pc = .ok (.lushr, 1))  (hp : pc + 1 = pc') (hr : Ends tb e below (T.setTop (mkF m pc' ls (.long ((x.toUInt64 >>> (y &&& 0x3f).toInt64.toUInt64).toInt64) :: st))) P) : Ends tb e below (T.setTop (mkF m pc ls (.int y :: .long x :: st))) P := by
  subst hp
  exact own_via (fun t_ k_ => XS.lushr h hx rfl hd rfl k_) hr
theorem s_idiv (h : At T m c below) (hx : tb.exec = Jvm.exec) {x y : Int32} (hd : decode c.code pc = .ok (.idiv, 1)) (hy : y ≠ 0) (hp : pc + 1 = pc') (hr : Ends tb e below (T.setTop (mkF m pc' ls (.int (x / y) :: st))) P) : Ends tb e below (T.setTop (mkF m pc ls (.int y :: .int x :: st))) P := by
  subst hp
  exact own_via (fun t_ k_ => XS.idiv h hx rfl hd rfl hy k_) hr
theorem s_ldiv (h : At T m c below) (hx : tb.exec = Jvm.exec) {x y : Int64} (hd : decode c.code pc = .ok (.ldiv, 1)) (hy : y ≠ 0) (hp : pc + 1 = pc') (hr : Ends tb e below (T.setTop (mkF m pc' ls (.long (x / y) :: st))) P) : Ends tb e below (T.setTop (mkF m pc ls (.long y :: .long x :: st))) P := by
  subst hp
  exact own_via (fun t_ k_ => XS.ldiv h hx rfl hd rfl hy k_) hr
theorem s_lrem (h : At T m c below) (hx : tb.exec = Jvm.exec) {x y : Int64} (hd : decode c.code pc = .ok (.lrem, 1)) (hy : y ≠ 0) (hp : pc + 1 = pc') (hr : Ends tb e below (T.setTop (mkF m pc' ls (.long (x % y) :: st))) P) : Ends tb e below (T.setTop (mkF m pc ls (.long y :: .long x :: st))) P := by
  subst hp
  exact own_via (fun t_ k_ => XS.lrem h hx rfl hd rfl hy (by rw [lrem_mod]; exact k_)) hr
theorem s_ineg (h : At T m c below) (hx : tb.exec = Jvm.exec) {x : Int32} (hd : decode c.code pc = .ok (.ineg, 1))  (hp : pc + 1 = pc') (hr : Ends tb e below (T.setTop (mkF m pc' ls (.int (-x) :: st))) P) : Ends tb e below (T.setTop (mkF m pc ls (.int x :: st))) P := by
  subst hp
  exact own_via (fun t_ k_ => XS.ineg h hx rfl hd rfl k_) hr
theorem s_lneg (h : At T m c below) (hx : tb.exec = Jvm.exec) {x : Int64} (hd : decode c.code pc = .ok (.lneg, 1))  (hp : pc + 1 = pc') (hr : Ends tb e below (T.setTop (mkF m pc' ls (.long (-x) :: st))) P) : Ends tb e below (T.setTop (mkF m pc ls (.long x :: st))) P := by
  subst hp
  exact own_via (fun t_ k_ => XS.lneg h hx rfl hd rfl k_) hr
theorem s_i2l (h : At T m c below) (hx : tb.exec = Jvm.exec) {x : Int32} (hd : decode c.code pc = .ok (.i2l, 1))  (hp : pc + 1 = pc') (hr : Ends tb e below (T.setTop (mkF m pc' ls (.long (x.toInt64) :: st))) P) : Ends tb e below (T.setTop (mkF m pc ls (.int x :: st))) P := by
  subst hp
  exact own_via (fun t_ k_ => XS.i2l h hx rfl hd rfl k_) hr
theorem s_l2i (h : At T m c below) (hx : tb.exec = Jvm.exec) {x : Int64} (hd : decode c.code pc = .ok (.l2i, 1))  (hp : pc + 1 = pc') (hr : Ends tb e below (T.setTop (mkF m pc' ls (.int (x.toInt32) :: st))) P) : Ends tb e below (T.setTop (mkF m pc ls (.long x :: st))) P := by
  subst hp
  exact own_via (fun t_ k_ => XS.l2i h hx rfl hd rfl k_) hr
theorem s_i2b (h : At T m c below) (hx : tb.exec = Jvm.exec) {x : Int32} (hd : decode c.code pc = .ok (.i2b, 1))  (hp : pc + 1 = pc') (hr : Ends tb e below (T.setTop (mkF m pc' ls (.int (x.toInt8.toInt32) :: st))) P) : Ends tb e below (T.setTop (mkF m pc ls (.int x :: st))) P := by
  subst hp
  exact own_via (fun t_ k_ => XS.i2b h hx rfl hd rfl k_) hr
theorem s_i2s (h : At T m c below) (hx : tb.exec = Jvm.exec) {x : Int32} (hd : decode c.code pc = .ok (.i2s, 1))  (hp : pc + 1 = pc') (hr : Ends tb e below (T.setTop (mkF m pc' ls (.int (x.toInt16.toInt32) :: st))) P) : Ends tb e below (T.setTop (mkF m pc ls (.int x :: st))) P := by
  subst hp
  exact own_via (fun t_ k_ => XS.i2s h hx rfl hd rfl k_) hr
theorem s_i2c (h : At T m c below) (hx : tb.exec = Jvm.exec) {x : Int32} (hd : decode c.code pc = .ok (.i2c, 1))  (hp : pc + 1 = pc') (hr : Ends tb e below (T.setTop (mkF m pc' ls (.int (x.toUInt32.toUInt16.toUInt32.toInt32) :: st))) P) : Ends tb e below (T.setTop (mkF m pc ls (.int x :: st))) P := by
  subst hp
  exact own_via (fun t_ k_ => XS.i2c h hx rfl hd rfl k_) hr
theorem s_lcmp (h : At T m c below) (hx : tb.exec = Jvm.exec) {x y : Int64} (hd : decode c.code pc = .ok (.lcmp, 1))  (hp : pc + 1 = pc') (hr : Ends tb e below (T.setTop (mkF m pc' ls (.int (lcmpW x y) :: st))) P) : Ends tb e below (T.setTop (mkF m pc ls (.long y :: .long x :: st))) P := by
  subst hp
  exact own_via (fun t_ k_ => XS.lcmp h hx rfl hd rfl k_) hr
theorem s_l2d (h : At T m c below) (hx : tb.exec = Jvm.exec) {x : Int64} (hd : decode c.code pc = .ok (.l2d, 1))  (hp : pc + 1 = pc') (hr : Ends tb e below (T.setTop (mkF m pc' ls (.double (FP.l2d x) :: st))) P) : Ends tb e below (T.setTop (mkF m pc ls (.long x :: st))) P := by
  subst hp
  exact own_via (fun t_ k_ => XS.l2dS h hx rfl hd rfl rfl k_) hr
theorem s_dneg (h : At T m c below) (hx : tb.exec = Jvm.exec) {x : UInt64} (hd : decode c.code pc = .ok (.dneg, 1))  (hp : pc + 1 = pc') (hr : Ends tb e below (T.setTop (mkF m pc' ls (.double (FP.dneg x) :: st))) P) : Ends tb e below (T.setTop (mkF m pc ls (.double x :: st))) P := by
  subst hp
  exact own_via (fun t_ k_ => XS.dnegS h hx rfl hd rfl rfl k_) hr
theorem s_dcmp (h : At T m c below) (hx : tb.exec = Jvm.exec) {o : CmpOp} {x y : UInt64} (hd : decode c.code pc = .ok (.dcmp o, 1))  (hp : pc + 1 = pc') (hr : Ends tb e below (T.setTop (mkF m pc' ls (.int (cmpValue (FP.dcmp x y) o) :: st))) P) : Ends tb e below (T.setTop (mkF m pc ls (.double y :: .double x :: st))) P := by
  subst hp
  exact own_via (fun t_ k_ => XS.dcmpS h hx rfl hd rfl rfl k_) hr
theorem s_iinc (h : At T m c below) (hx : tb.exec = Jvm.exec) {k : Nat} {i : Int} {x v : Int32} (hd : decode c.code pc = .ok (.iinc k i, 3)) (hv : Int32.ofInt i = v) (hl : ls[k]? = some (.val (.int x))) (hl' : storeLocals ls k (.int (x + v)) = some l') (hp : pc + 3 = pc') (hr : Ends tb e below (T.setTop (mkF m pc' l' st)) P) : Ends tb e below (T.setTop (mkF m pc ls st)) P := by
  subst hp hv
  exact own_via (fun t_ k_ => XS.iinc h hx rfl hd hl hl' k_) hr
theorem s_dup (h : At T m c below) (hx : tb.exec = Jvm.exec) {x : Value} (hd : decode c.code pc = .ok (.dup, 1)) (hc : x.category = 1) (hp : pc + 1 = pc') (hr : Ends tb e below (T.setTop (mkF m pc' ls (x :: x :: st))) P) : Ends tb e below (T.setTop (mkF m pc ls (x :: st))) P := by
  subst hp
  exact own_via (fun t_ k_ => XS.dup h hx rfl hd rfl hc k_) hr
theorem s_dupX1 (h : At T m c below) (hx : tb.exec = Jvm.exec) {x y : Value} (hd : decode c.code pc = .ok (.dup_x1, 1)) (hc : x.category = 1) (hc' : y.category = 1) (hp : pc + 1 = pc') (hr : Ends tb e below (T.setTop (mkF m pc' ls (x :: y :: x :: st))) P) : Ends tb e below (T.setTop (mkF m pc ls (x :: y :: st))) P := by
  subst hp
  exact own_via (fun t_ k_ => XS.dupX1 h hx rfl hd rfl hc hc' k_) hr
theorem s_dup2 (h : At T m c below) (hx : tb.exec = Jvm.exec) {x y : Value} (hd : decode c.code pc = .ok (.dup2, 1)) (hc : x.category = 1) (hc' : y.category = 1) (hp : pc + 1 = pc') (hr : Ends tb e below (T.setTop (mkF m pc' ls (x :: y :: x :: y :: st))) P) : Ends tb e below (T.setTop (mkF m pc ls (x :: y :: st))) P := by
  subst hp
  exact own_via (fun t_ k_ => XT.dup2 h hx rfl hd rfl hc hc' k_) hr
theorem s_dup2L (h : At T m c below) (hx : tb.exec = Jvm.exec) {x : Int64} (hd : decode c.code pc = .ok (.dup2, 1))  (hp : pc + 1 = pc') (hr : Ends tb e below (T.setTop (mkF m pc' ls (.long x :: .long x :: st))) P) : Ends tb e below (T.setTop (mkF m pc ls (.long x :: st))) P := by
  subst hp
  exact own_via (fun t_ k_ => XT.dup2L h hx rfl hd rfl k_) hr
theorem s_pop (h : At T m c below) (hx : tb.exec = Jvm.exec) {x : Value} (hd : decode c.code pc = .ok (.pop, 1)) (hc : x.category = 1) (hp : pc + 1 = pc') (hr : Ends tb e below (T.setTop (mkF m pc' ls st)) P) : Ends tb e below (T.setTop (mkF m pc ls (x :: st))) P := by
  subst hp
  exact own_via (fun t_ k_ => XS.pop h hx rfl hd rfl hc k_) hr
theorem own_pop2L {target : State} {g : JFrame} (h : At T m c below) (hx : tb.exec = Jvm.exec) (hg : g.method = m) {x : Int64} {rest : List Value} (hd : decode c.code g.pc = .ok (.pop2, 1)) (hs : g.stack = .long x :: rest)
    (hr : Steps tb e below (T.setTop { g with pc := g.pc + 1, stack := rest }) target) : Steps tb e below (T.setTop g) target := by
  subst hg
  jvm_step h [h.top, hx, hd, hs, Value.category]
  exact hr
theorem s_pop2L (h : At T m c below) (hx : tb.exec = Jvm.exec) {x : Int64} (hd : decode c.code pc = .ok (.pop2, 1))  (hp : pc + 1 = pc') (hr : Ends tb e below (T.setTop (mkF m pc' ls st)) P) : Ends tb e below (T.setTop (mkF m pc ls (.long x :: st))) P := by
  subst hp
  exact own_via (fun t_ k_ => own_pop2L h hx rfl hd rfl k_) hr
theorem s_goto (h : At T m c below) (hx : tb.exec = Jvm.exec)  {o : Int} (hd : decode c.code pc = .ok (.goto o, 3))  (ho : 0 ≤ (pc : Int) + o) (hp : ((pc : Int) + o).toNat = pc') (hr : Ends tb e below (T.setTop (mkF m pc' ls st)) P) : Ends tb e below (T.setTop (mkF m pc ls st)) P := own_via (fun t_ k_ => XS.goto h hx rfl rfl hd ho hp k_) hr
theorem s_ifYes (h : At T m c below) (hx : tb.exec = Jvm.exec) {cd : ClassFile.Cond} {x : Int32} {o : Int} (hd : decode c.code pc = .ok (.ifCond cd o, 3)) (hc : ifCond.holds cd x = true) (ho : 0 ≤ (pc : Int) + o) (hp : ((pc : Int) + o).toNat = pc') (hr : Ends tb e below (T.setTop (mkF m pc' ls st)) P) : Ends tb e below (T.setTop (mkF m pc ls (.int x :: st))) P := own_via (fun t_ k_ => XS.ifYes h hx rfl rfl hd rfl hc ho hp k_) hr
theorem s_ifNo (h : At T m c below) (hx : tb.exec = Jvm.exec) {cd : ClassFile.Cond} {x : Int32} {o : Int} (hd : decode c.code pc = .ok (.ifCond cd o, 3)) (hc : ifCond.holds cd x = false) (hp : pc + 3 = pc') (hr : Ends tb e below (T.setTop (mkF m pc' ls st)) P) : Ends tb e below (T.setTop (mkF m pc ls (.int x :: st))) P := by
  subst hp
  exact own_via (fun t_ k_ => XS.ifNo h hx rfl hd rfl hc k_) hr
theorem s_icmpYes (h : At T m c below) (hx : tb.exec = Jvm.exec) {cd : ClassFile.Cond} {x y : Int32} {o : Int} (hd : decode c.code pc = .ok (.if_icmp cd o, 3)) (hc : if_icmp.holds cd x y = true) (ho : 0 ≤ (pc : Int) + o) (hp : ((pc : Int) + o).toNat = pc') (hr : Ends tb e below (T.setTop (mkF m pc' ls st)) P) : Ends tb e below (T.setTop (mkF m pc ls (.int y :: .int x :: st))) P := own_via (fun t_ k_ => XS.icmpYes h hx rfl rfl hd rfl hc ho hp k_) hr
theorem s_icmpNo (h : At T m c below) (hx : tb.exec = Jvm.exec) {cd : ClassFile.Cond} {x y : Int32} {o : Int} (hd : decode c.code pc = .ok (.if_icmp cd o, 3)) (hc : if_icmp.holds cd x y = false) (hp : pc + 3 = pc') (hr : Ends tb e below (T.setTop (mkF m pc' ls st)) P) : Ends tb e below (T.setTop (mkF m pc ls (.int y :: .int x :: st))) P := by
  subst hp
  exact own_via (fun t_ k_ => XS.icmpNo h hx rfl hd rfl hc k_) hr
theorem s_ifnullYes (h : At T m c below) (hx : tb.exec = Jvm.exec)  {o : Int} (hd : decode c.code pc = .ok (.ifnull o, 3))  (ho : 0 ≤ (pc : Int) + o) (hp : ((pc : Int) + o).toNat = pc') (hr : Ends tb e below (T.setTop (mkF m pc' ls st)) P) : Ends tb e below (T.setTop (mkF m pc ls (.null :: st))) P := own_via (fun t_ k_ => XS.ifnullYes h hx rfl rfl hd rfl ho hp k_) hr
theorem s_ifnullNo (h : At T m c below) (hx : tb.exec = Jvm.exec) {b : Addr} {o : Int} (hd : decode c.code pc = .ok (.ifnull o, 3))  (hp : pc + 3 = pc') (hr : Ends tb e below (T.setTop (mkF m pc' ls st)) P) : Ends tb e below (T.setTop (mkF m pc ls (.ref b :: st))) P := by
  subst hp
  exact own_via (fun t_ k_ => XS.ifnullNo h hx rfl hd rfl k_) hr
theorem s_ifnonnullYes (h : At T m c below) (hx : tb.exec = Jvm.exec) {b : Addr} {o : Int} (hd : decode c.code pc = .ok (.ifnonnull o, 3))  (ho : 0 ≤ (pc : Int) + o) (hp : ((pc : Int) + o).toNat = pc') (hr : Ends tb e below (T.setTop (mkF m pc' ls st)) P) : Ends tb e below (T.setTop (mkF m pc ls (.ref b :: st))) P := own_via (fun t_ k_ => XS.ifnonnullYes h hx rfl rfl hd rfl ho hp k_) hr
theorem s_ifnonnullNo (h : At T m c below) (hx : tb.exec = Jvm.exec)  {o : Int} (hd : decode c.code pc = .ok (.ifnonnull o, 3))  (hp : pc + 3 = pc') (hr : Ends tb e below (T.setTop (mkF m pc' ls st)) P) : Ends tb e below (T.setTop (mkF m pc ls (.null :: st))) P := by
  subst hp
  exact own_via (fun t_ k_ => XS.ifnonnullNo h hx rfl hd rfl k_) hr
theorem s_tswIn (h : At T m c below) (hx : tb.exec = Jvm.exec) {dflt low high : Int} {offs : Array Int} {len : Nat} {o : Int} {i : Int32} (hd : decode c.code pc = .ok (.tableswitch dflt low high offs, len)) (hin : ¬ (i.toInt < low ∨ i.toInt > high)) (hoff : offs[(i.toInt - low).toNat]? = some o) (ho : 0 ≤ (pc : Int) + o) (hp : ((pc : Int) + o).toNat = pc') (hr : Ends tb e below (T.setTop (mkF m pc' ls st)) P) : Ends tb e below (T.setTop (mkF m pc ls (.int i :: st))) P := own_via (fun t_ k_ => XS.tswIn h hx rfl rfl hd rfl hin hoff ho hp k_) hr
theorem s_tswOut (h : At T m c below) (hx : tb.exec = Jvm.exec) {dflt low high : Int} {offs : Array Int} {len : Nat} {i : Int32} (hd : decode c.code pc = .ok (.tableswitch dflt low high offs, len)) (hout : i.toInt < low ∨ i.toInt > high) (ho : 0 ≤ (pc : Int) + dflt) (hp : ((pc : Int) + dflt).toNat = pc') (hr : Ends tb e below (T.setTop (mkF m pc' ls st)) P) : Ends tb e below (T.setTop (mkF m pc ls (.int i :: st))) P := own_via (fun t_ k_ => XS.tswOut h hx rfl rfl hd rfl hout ho hp k_) hr
end OwnSteps
section OwnLaws
variable {p : Program} {l : Launch} {e : Env} {R : Room} {s : State} {m : MethodId} {args : Array Value} {below : List Frame} {meth : Method} {c : Code} {T : State} {locs : List Loc} {cells slots : Nat} {Z : State} {a0 : Array Value} {h : Heap} {P : State → Outcome → Prop} {pc pc' : Nat} {ls : Array Slot} {st : List Value}
theorem s_getF (X : Stand p l e R s m args below meth c T locs cells slots) (hx : p.tables.exec = Jvm.exec) (hZ : Z.Warmed39 s.vm) {own R0 O n d host : String} {index : Nat} (hown : s.vm.findClass own = some m.cls) (w : (Jvm.Cond.fieldLink own index R0 n d).before a0 Z = true ∨ (Jvm.Cond.fieldLinkNest own index R0 n d host).before a0 Z = true) (via : Via Z R0 O n d) (eT : T.heap = h) {a : Addr} {v : Value} (F : Fld Z h a O n d v) (hd : decode c.code pc = .ok (.getfield index, 3)) (hp : pc + 3 = pc') (k : ∀ T', Stand p l e R s m args below meth c T' locs cells slots → T'.heap = h → Ends p.tables e below (T'.setTop (mkF m pc' ls (v :: st))) P) : Ends p.tables e below (T.setTop (mkF m pc ls (.ref a :: st))) P := by
  subst hp
  obtain ⟨T', X', e', s'⟩ := getF X hx hZ hown w via eT F (g := mkF m pc ls (.ref a :: st)) rfl rfl hd
  exact own_via s' (k T' X' e')
theorem s_getS (X : Stand p l e R s m args below meth c T locs cells slots) (hx : p.tables.exec = Jvm.exec) (hZ : Z.Warmed39 s.vm) {own R0 O n d host : String} {index : Nat} (hown : s.vm.findClass own = some m.cls) (w : (Jvm.Cond.fieldLink own index R0 n d).before a0 Z = true ∨ (Jvm.Cond.fieldLinkNest own index R0 n d host).before a0 Z = true) (via : Via Z R0 O n d) (eT : T.heap = h) {v : Value} (F : Sta Z h O n d v) (hd : decode c.code pc = .ok (.getstatic index, 3)) (hp : pc + 3 = pc') (k : ∀ T', Stand p l e R s m args below meth c T' locs cells slots → T'.heap = h → Ends p.tables e below (T'.setTop (mkF m pc' ls (v :: st))) P) : Ends p.tables e below (T.setTop (mkF m pc ls st)) P := by
  subst hp
  obtain ⟨T', X', e', s'⟩ := getS2 X hx hZ hown w via eT F (g := mkF m pc ls st) rfl hd
  exact own_via s' (k T' X' e')
theorem s_putF (X : Stand p l e R s m args below meth c T locs cells slots) (hx : p.tables.exec = Jvm.exec) (hZ : Z.Warmed39 s.vm) {own R0 O n d host : String} {index : Nat} (hown : s.vm.findClass own = some m.cls) (w : (Jvm.Cond.fieldLink own index R0 n d).before a0 Z = true ∨ (Jvm.Cond.fieldLinkNest own index R0 n d host).before a0 Z = true) (via : Via Z R0 O n d) (eT : T.heap = h) {C : String} {kk : Nat} {ty : FieldType} {a : Addr} {v old : Value} (F : Fld Z h a O n d old) (E : Exa Z h a C) (L : (Jvm.Cond.lays C O n d).before a0 Z = true ∨ ((Jvm.Cond.laysFinal C O n d).before a0 Z = true ∧ own = O ∧ meth.name = "<init>")) (wi : (Jvm.Cond.instantiable C kk).before a0 Z = true) (hty : parseFieldDescriptor d = some ty) (hn : narrow ty v = v) (hf : fits ty v = true) (hd : decode c.code pc = .ok (.putfield index, 3)) (hp : pc + 3 = pc') (k : ∀ T' h', Stand p l e R s m args below meth c T' (locs ++ [⟨a, Jvm.RoadKit.slotOf Z O n d⟩]) cells slots → T'.heap = h' → Wr h h' a (Jvm.RoadKit.slotOf Z O n d) v → Ends p.tables e below (T'.setTop (mkF m pc' ls st)) P) : Ends p.tables e below (T.setTop (mkF m pc ls (v :: .ref a :: st))) P := by
  subst hp
  obtain ⟨T', h', X', e', W, s'⟩ := putF X hx hZ hown w via eT F E L wi hty hn hf (g := mkF m pc ls (v :: .ref a :: st)) rfl rfl hd
  exact own_via s' (k T' h' X' e' W)
theorem s_putFN (X : Stand p l e R s m args below meth c T locs cells slots) (hx : p.tables.exec = Jvm.exec) (hZ : Z.Warmed39 s.vm) {own R0 O n d : String} {index : Nat} (hown : s.vm.findClass own = some m.cls) (w : (Jvm.Cond.fieldLink own index R0 n d).before a0 Z = true) (via : Via Z R0 O n d) (eT : T.heap = h) {C : String} {kk : Nat} {ty : FieldType} {a : Addr} {v v' old : Value} (F : Fld Z h a O n d old) (E : Exa Z h a C) (L : (Jvm.Cond.lays C O n d).before a0 Z = true ∨ ((Jvm.Cond.laysFinal C O n d).before a0 Z = true ∧ own = O ∧ meth.name = "<init>")) (wi : (Jvm.Cond.instantiable C kk).before a0 Z = true) (hty : parseFieldDescriptor d = some ty) (hn : narrow ty v = v') (hf : fits ty v' = true) (hd : decode c.code pc = .ok (.putfield index, 3)) (hp : pc + 3 = pc') (k : ∀ T' h', Stand p l e R s m args below meth c T' (locs ++ [⟨a, Jvm.RoadKit.slotOf Z O n d⟩]) cells slots → T'.heap = h' → Wr h h' a (Jvm.RoadKit.slotOf Z O n d) v' → Ends p.tables e below (T'.setTop (mkF m pc' ls st)) P) : Ends p.tables e below (T.setTop (mkF m pc ls (v :: .ref a :: st))) P := by
  subst hp
  obtain ⟨T', h', X', e', W, s'⟩ := putFN X hx hZ hown w via eT F E L wi hty hn hf (g := mkF m pc ls (v :: .ref a :: st)) rfl rfl hd
  exact own_via s' (k T' h' X' e' W)
theorem s_newO (X : Stand p l e R s m args below meth c T locs cells slots) (hx : p.tables.exec = Jvm.exec) (hZ : Z.Warmed39 s.vm) {own C : String} {index n : Nat} (hown : s.vm.findClass own = some m.cls) (w : (Jvm.Cond.classLink own index C).before a0 Z = true) (wi : (Jvm.Cond.instantiable C n).before a0 Z = true) (wz : (Jvm.Cond.initialized C).before a0 Z = true) (eT : T.heap = h) (hd : decode c.code pc = .ok (.new index, 3)) (hc : cells + 1 ≤ R.cells) (hl : slots + n ≤ R.slots) (hp : pc + 3 = pc') (k : ∀ T' h', Stand p l e R s m args below meth c T' locs (cells + 1) (slots + n) → T'.heap = h' → Ext h h' → ∀ b, b = h.size → Exa Z h' b C → (∀ {O nm d : String} {ty : FieldType}, Laid Z a0 C O nm d → parseFieldDescriptor d = some ty → Fld Z h' b O nm d (defaultValue ty)) → Ends p.tables e below (T'.setTop (mkF m pc' ls (.ref b :: st))) P) : Ends p.tables e below (T.setTop (mkF m pc ls st)) P := by
  subst hp
  obtain ⟨T', h', X', e', E, A, D, -, s'⟩ := newO X hx hZ hown w wi wz eT (g := mkF m pc ls st) rfl hd hc hl
  exact own_via s' (k T' h' X' e' E _ rfl A D)
theorem s_newP (X : Stand p l e R s m args below meth c T locs cells slots) (hx : p.tables.exec = Jvm.exec) (hZ : Z.Warmed39 s.vm) {aty : ArrayType} (w : (Jvm.Cond.arrayClass (newarray.typeOf aty)).before a0 Z = true) (eT : T.heap = h) (hd : decode c.code pc = .ok (.newarray aty, 2)) {n : Int32} (hn : ¬ n < 0) {cap : Nat} (hcap : n.toNatClampNeg ≤ cap) (hb : cap * 8 ≤ 536870912) (hc : cells + 1 ≤ R.cells) (hl : slots + cap ≤ R.slots) (hp : pc + 2 = pc') (k : ∀ T' h', Stand p l e R s m args below meth c T' locs (cells + 1) (slots + cap) → T'.heap = h' → ∀ cA, Ext h h' → ∀ b, b = h.size → Arr Z h' b (newA cA (newarray.typeOf aty) n) (newarray.typeOf aty) → Ends p.tables e below (T'.setTop (mkF m pc' ls (.ref b :: st))) P) : Ends p.tables e below (T.setTop (mkF m pc ls (.int n :: st))) P := by
  subst hp
  obtain ⟨T', h', cA, X', e', E, A, s'⟩ := newP X hx hZ w eT (g := mkF m pc ls (.int n :: st)) rfl hd rfl hn hcap hb hc hl
  exact own_via s' (k T' h' X' e' cA E _ rfl A)
theorem s_newPE (X : Stand p l e R s m args below meth c T locs cells slots) (hx : p.tables.exec = Jvm.exec) (hZ : Z.Warmed39 s.vm) {aty : ArrayType} (w : (Jvm.Cond.arrayClass (newarray.typeOf aty)).before a0 Z = true) (eT : T.heap = h) (hd : decode c.code pc = .ok (.newarray aty, 2)) {n : Int32} (hn : ¬ n < 0) {cap : Nat} (hcap : n.toNatClampNeg ≤ cap) (hb : cap * 8 ≤ 536870912) (hc : cells + 1 ≤ R.cells) (hl : slots + cap ≤ R.slots) {ad : String} (had : "[" ++ (newarray.typeOf aty).toString = ad) (hp : pc + 2 = pc') (k : ∀ T' h', Stand p l e R s m args below meth c T' locs (cells + 1) (slots + cap) → T'.heap = h' → ∀ cA, Ext h h' → ∀ b, b = h.size → Arr Z h' b (newA cA (newarray.typeOf aty) n) (newarray.typeOf aty) → Exa Z h' b ad → Ends p.tables e below (T'.setTop (mkF m pc' ls (.ref b :: st))) P) : Ends p.tables e below (T.setTop (mkF m pc ls (.int n :: st))) P := by
  subst hp
  obtain ⟨T', h', cA, X', e', E, A, Ex, s'⟩ := newPE X hx hZ w eT (g := mkF m pc ls (.int n :: st)) rfl hd rfl hn hcap hb hc hl had
  exact own_via s' (k T' h' X' e' cA E _ rfl A Ex)
theorem s_newR (X : Stand p l e R s m args below meth c T locs cells slots) (hx : p.tables.exec = Jvm.exec) (hZ : Z.Warmed39 s.vm) {own C : String} {index : Nat} (hown : s.vm.findClass own = some m.cls) (w1 : (Jvm.Cond.classLink own index C).before a0 Z = true) (w2 : (Jvm.Cond.arrayOver (.object C)).before a0 Z = true) (eT : T.heap = h) (hd : decode c.code pc = .ok (.anewarray index, 3)) {n : Int32} (hn : ¬ n < 0) {cap : Nat} (hcap : n.toNatClampNeg ≤ cap) (hb : cap * 8 ≤ 536870912) (hc : cells + 1 ≤ R.cells) (hl : slots + cap ≤ R.slots) (hp : pc + 3 = pc') (k : ∀ T' h', Stand p l e R s m args below meth c T' locs (cells + 1) (slots + cap) → T'.heap = h' → ∀ cA, Ext h h' → ∀ b, b = h.size → Arr Z h' b (newA cA (.object C) n) (.object C) → Ends p.tables e below (T'.setTop (mkF m pc' ls (.ref b :: st))) P) : Ends p.tables e below (T.setTop (mkF m pc ls (.int n :: st))) P := by
  subst hp
  obtain ⟨T', h', cA, X', e', E, A, -, s'⟩ := newR X hx hZ hown w1 w2 eT (g := mkF m pc ls (.int n :: st)) rfl hd rfl hn hcap hb hc hl
  exact own_via s' (k T' h' X' e' cA E _ rfl A)
theorem s_stI (X : Stand p l e R s m args below meth c T locs cells slots) (hx : p.tables.exec = Jvm.exec) (hZ : Z.Warmed39 s.vm) (eT : T.heap = h) {a : Addr} {cl : Cell} (A : Arr Z h a cl .int) {j : Int32} {x : Int32} (hj : ¬ (j < 0 ∨ cl.slots.size ≤ j.toNatClampNeg)) (hd : decode c.code pc = .ok (.iastore, 1)) (hp : pc + 1 = pc') (k : ∀ T' h', Stand p l e R s m args below meth c T' (locs ++ [⟨a, j.toNatClampNeg⟩]) cells slots → T'.heap = h' → Wr h h' a j.toNatClampNeg (.int x) → Ends p.tables e below (T'.setTop (mkF m pc' ls st)) P) : Ends p.tables e below (T.setTop (mkF m pc ls (.int x :: .int j :: .ref a :: st))) P := by
  subst hp
  obtain ⟨T', h', X', e', W, s'⟩ := stI X hx hZ eT A (j := j) hj (g := mkF m pc ls (.int x :: .int j :: .ref a :: st)) rfl rfl hd
  exact own_via s' (k T' h' X' e' W)
theorem s_stJ (X : Stand p l e R s m args below meth c T locs cells slots) (hx : p.tables.exec = Jvm.exec) (hZ : Z.Warmed39 s.vm) (eT : T.heap = h) {a : Addr} {cl : Cell} (A : Arr Z h a cl .long) {j : Int32} {x : Int64} (hj : ¬ (j < 0 ∨ cl.slots.size ≤ j.toNatClampNeg)) (hd : decode c.code pc = .ok (.lastore, 1)) (hp : pc + 1 = pc') (k : ∀ T' h', Stand p l e R s m args below meth c T' (locs ++ [⟨a, j.toNatClampNeg⟩]) cells slots → T'.heap = h' → Wr h h' a j.toNatClampNeg (.long x) → Ends p.tables e below (T'.setTop (mkF m pc' ls st)) P) : Ends p.tables e below (T.setTop (mkF m pc ls (.long x :: .int j :: .ref a :: st))) P := by
  subst hp
  obtain ⟨T', h', X', e', W, s'⟩ := stJ X hx hZ eT A (j := j) hj (g := mkF m pc ls (.long x :: .int j :: .ref a :: st)) rfl rfl hd
  exact own_via s' (k T' h' X' e' W)
theorem s_stC (X : Stand p l e R s m args below meth c T locs cells slots) (hx : p.tables.exec = Jvm.exec) (hZ : Z.Warmed39 s.vm) (eT : T.heap = h) {a : Addr} {cl : Cell} (A : Arr Z h a cl .char) {j : Int32} {x : Int32} (hj : ¬ (j < 0 ∨ cl.slots.size ≤ j.toNatClampNeg)) (hd : decode c.code pc = .ok (.castore, 1)) (hp : pc + 1 = pc') (k : ∀ T' h', Stand p l e R s m args below meth c T' (locs ++ [⟨a, j.toNatClampNeg⟩]) cells slots → T'.heap = h' → Wr h h' a j.toNatClampNeg (.int (nar .char x)) → Ends p.tables e below (T'.setTop (mkF m pc' ls st)) P) : Ends p.tables e below (T.setTop (mkF m pc ls (.int x :: .int j :: .ref a :: st))) P := by
  subst hp
  obtain ⟨T', h', X', e', W, s'⟩ := stC X hx hZ eT A (j := j) hj (g := mkF m pc ls (.int x :: .int j :: .ref a :: st)) rfl rfl hd
  exact own_via s' (k T' h' X' e' W)
theorem s_stB (X : Stand p l e R s m args below meth c T locs cells slots) (hx : p.tables.exec = Jvm.exec) (hZ : Z.Warmed39 s.vm) (eT : T.heap = h) {a : Addr} {cl : Cell} (A : Arr Z h a cl .byte) {j : Int32} {x : Int32} (hj : ¬ (j < 0 ∨ cl.slots.size ≤ j.toNatClampNeg)) (hd : decode c.code pc = .ok (.bastore, 1)) (hp : pc + 1 = pc') (k : ∀ T' h', Stand p l e R s m args below meth c T' (locs ++ [⟨a, j.toNatClampNeg⟩]) cells slots → T'.heap = h' → Wr h h' a j.toNatClampNeg (.int (nar .byte x)) → Ends p.tables e below (T'.setTop (mkF m pc' ls st)) P) : Ends p.tables e below (T.setTop (mkF m pc ls (.int x :: .int j :: .ref a :: st))) P := by
  subst hp
  obtain ⟨T', h', X', e', W, s'⟩ := stB X hx hZ eT A (j := j) hj (g := mkF m pc ls (.int x :: .int j :: .ref a :: st)) rfl rfl hd
  exact own_via s' (k T' h' X' e' W)
theorem s_stN (X : Stand p l e R s m args below meth c T locs cells slots) (hx : p.tables.exec = Jvm.exec) (hZ : Z.Warmed39 s.vm) (eT : T.heap = h) {a : Addr} {cl : Cell} {ty : FieldType} (A : Arr Z h a cl ty) (hr : ty.isReference = true) {j : Int32} (hj : ¬ (j < 0 ∨ cl.slots.size ≤ j.toNatClampNeg)) (hd : decode c.code pc = .ok (.aastore, 1)) (hp : pc + 1 = pc') (k : ∀ T' h', Stand p l e R s m args below meth c T' (locs ++ [⟨a, j.toNatClampNeg⟩]) cells slots → T'.heap = h' → Wr h h' a j.toNatClampNeg .null → Ends p.tables e below (T'.setTop (mkF m pc' ls st)) P) : Ends p.tables e below (T.setTop (mkF m pc ls (.null :: .int j :: .ref a :: st))) P := by
  subst hp
  obtain ⟨T', h', X', e', W, s'⟩ := stR X hx hZ eT A (j := j) hj hr (Or.inl rfl) (g := mkF m pc ls (.null :: .int j :: .ref a :: st)) rfl rfl hd
  exact own_via s' (k T' h' X' e' W)
theorem s_iaload (X : Stand p l e R s m args below meth c T locs cells slots) (hx : p.tables.exec = Jvm.exec) (hZ : Z.Warmed39 s.vm) (eT : T.heap = h) {a : Addr} {k : ClassId} {z : Int32} {vs : List Value} {dv v : Value} {j : Int32} (F : Arv Z h a k .int z vs dv) (hj : ¬ j < 0 ∧ j < z) (hv : vs.getD j.toNatClampNeg dv = v) (hd : decode c.code pc = .ok (.iaload, 1)) (hp : pc + 1 = pc') (hr : Ends p.tables e below (T.setTop (mkF m pc' ls (v :: st))) P) : Ends p.tables e below (T.setTop (mkF m pc ls (.int j :: .ref a :: st))) P := by
  subst hp
  obtain ⟨cl, A, -, S, M, H, -⟩ := F
  have hin := inb_of S hj
  exact own_via (X.iaload hx (j := j) (v := v) (by rw [eT]; exact A.1) (State.isArrayOf_alike hZ.alike A.2.1) A.2.2 hin (H.at hin hv) (g := mkF m pc ls (.int j :: .ref a :: st)) rfl rfl hd) hr
theorem s_laload (X : Stand p l e R s m args below meth c T locs cells slots) (hx : p.tables.exec = Jvm.exec) (hZ : Z.Warmed39 s.vm) (eT : T.heap = h) {a : Addr} {k : ClassId} {z : Int32} {vs : List Value} {dv v : Value} {j : Int32} (F : Arv Z h a k .long z vs dv) (hj : ¬ j < 0 ∧ j < z) (hv : vs.getD j.toNatClampNeg dv = v) (hd : decode c.code pc = .ok (.laload, 1)) (hp : pc + 1 = pc') (hr : Ends p.tables e below (T.setTop (mkF m pc' ls (v :: st))) P) : Ends p.tables e below (T.setTop (mkF m pc ls (.int j :: .ref a :: st))) P := by
  subst hp
  obtain ⟨cl, A, -, S, M, H, -⟩ := F
  have hin := inb_of S hj
  exact own_via (X.laload hx (j := j) (v := v) (by rw [eT]; exact A.1) (State.isArrayOf_alike hZ.alike A.2.1) A.2.2 hin (H.at hin hv) (g := mkF m pc ls (.int j :: .ref a :: st)) rfl rfl hd) hr
theorem s_caload (X : Stand p l e R s m args below meth c T locs cells slots) (hx : p.tables.exec = Jvm.exec) (hZ : Z.Warmed39 s.vm) (eT : T.heap = h) {a : Addr} {k : ClassId} {z : Int32} {vs : List Value} {dv v : Value} {j : Int32} (F : Arv Z h a k .char z vs dv) (hj : ¬ j < 0 ∧ j < z) (hv : vs.getD j.toNatClampNeg dv = v) (hd : decode c.code pc = .ok (.caload, 1)) (hp : pc + 1 = pc') (hr : Ends p.tables e below (T.setTop (mkF m pc' ls (v :: st))) P) : Ends p.tables e below (T.setTop (mkF m pc ls (.int j :: .ref a :: st))) P := by
  subst hp
  obtain ⟨cl, A, -, S, M, H, -⟩ := F
  have hin := inb_of S hj
  exact own_via (X.caload hx (j := j) (v := v) (by rw [eT]; exact A.1) (State.isArrayOf_alike hZ.alike A.2.1) A.2.2 hin (H.at hin hv) (g := mkF m pc ls (.int j :: .ref a :: st)) rfl rfl hd) hr
theorem s_baload (X : Stand p l e R s m args below meth c T locs cells slots) (hx : p.tables.exec = Jvm.exec) (hZ : Z.Warmed39 s.vm) (eT : T.heap = h) {a : Addr} {k : ClassId} {z : Int32} {vs : List Value} {dv v : Value} {j : Int32} (F : Arv Z h a k .byte z vs dv) (hj : ¬ j < 0 ∧ j < z) (hv : vs.getD j.toNatClampNeg dv = v) (hd : decode c.code pc = .ok (.baload, 1)) (hp : pc + 1 = pc') (hr : Ends p.tables e below (T.setTop (mkF m pc' ls (v :: st))) P) : Ends p.tables e below (T.setTop (mkF m pc ls (.int j :: .ref a :: st))) P := by
  subst hp
  obtain ⟨cl, A, -, S, M, H, -⟩ := F
  have hin := inb_of S hj
  exact own_via (X.baloadBytes hx (j := j) (v := v) (by rw [eT]; exact A.1) (State.isArrayOf_alike hZ.alike A.2.1) A.2.2 hin (H.at hin hv) (g := mkF m pc ls (.int j :: .ref a :: st)) rfl rfl hd) hr
theorem s_arraylength (X : Stand p l e R s m args below meth c T locs cells slots) (hx : p.tables.exec = Jvm.exec) (hZ : Z.Warmed39 s.vm) (eT : T.heap = h) {a : Addr} {k : ClassId} {ty : FieldType} {z : Int32} {vs : List Value} {dv : Value} (F : Arv Z h a k ty z vs dv) (hd : decode c.code pc = .ok (.arraylength, 1)) (hp : pc + 1 = pc') (hr : Ends p.tables e below (T.setTop (mkF m pc' ls (.int z :: st))) P) : Ends p.tables e below (T.setTop (mkF m pc ls (.ref a :: st))) P := by
  subst hp
  obtain ⟨cl, A, -, S, M, H, -⟩ := F
  refine own_via (X.arraylength hx (by rw [eT]; exact A.1) (State.isArrayOf_alike hZ.alike A.2.1) (g := mkF m pc ls (.ref a :: st)) rfl rfl hd) ?_
  rw [len_of S M]
  exact hr
theorem own_set {a : Addr} {k : ClassId} {ty : FieldType} {z : Int32} {vs : List Value} {dv v : Value} {j : Int32} {cl : Cell} {h' : Heap} (F : ∃ c : Cell, c = cl ∧ Arr Z h a c ty ∧ c.cls = k ∧ c.slots.size = z.toNatClampNeg ∧ ¬ z < 0 ∧ Has c vs dv ∧ ∀ i, i < c.slots.size → fits ty (vs.getD i dv) = true) (hv : fits ty v = true) (W : Wr h h' a j.toNatClampNeg v) (i : Nat) (hj : j.toNatClampNeg = i) (hi : i < vs.length) : Arv Z h' a k ty z (vs.set i v) dv := by
  obtain ⟨c, rfl, A, q1, S, M, H, G⟩ := F
  exact Arv.set A q1 S M H G hv W i hj hi
theorem s_putI (X : Stand p l e R s m args below meth c T locs cells slots) (hx : p.tables.exec = Jvm.exec) (hZ : Z.Warmed39 s.vm) (eT : T.heap = h) {a : Addr} {k : ClassId} {z : Int32} {vs : List Value} {dv : Value} {j : Int32} {x : Int32} (F : Arv Z h a k .int z vs dv) (hj : ¬ j < 0 ∧ j < z) (i : Nat) (hi : j.toNatClampNeg = i) (hl : i < vs.length) (hd : decode c.code pc = .ok (.iastore, 1)) (hp : pc + 1 = pc') (kk : ∀ T' h', Stand p l e R s m args below meth c T' (locs ++ [⟨a, j.toNatClampNeg⟩]) cells slots → T'.heap = h' → Wr h h' a j.toNatClampNeg (.int x) → Arv Z h' a k .int z (vs.set i (.int x)) dv → Ends p.tables e below (T'.setTop (mkF m pc' ls st)) P) : Ends p.tables e below (T.setTop (mkF m pc ls (.int x :: .int j :: .ref a :: st))) P := by
  obtain ⟨cl, A, q1, S, M, H, G⟩ := F
  exact s_stI X hx hZ eT A (inb_of S hj) hd hp fun T' h' X' e' W => kk T' h' X' e' W (Arv.set A q1 S M H G rfl W i hi hl)
theorem s_putJ (X : Stand p l e R s m args below meth c T locs cells slots) (hx : p.tables.exec = Jvm.exec) (hZ : Z.Warmed39 s.vm) (eT : T.heap = h) {a : Addr} {k : ClassId} {z : Int32} {vs : List Value} {dv : Value} {j : Int32} {x : Int64} (F : Arv Z h a k .long z vs dv) (hj : ¬ j < 0 ∧ j < z) (i : Nat) (hi : j.toNatClampNeg = i) (hl : i < vs.length) (hd : decode c.code pc = .ok (.lastore, 1)) (hp : pc + 1 = pc') (kk : ∀ T' h', Stand p l e R s m args below meth c T' (locs ++ [⟨a, j.toNatClampNeg⟩]) cells slots → T'.heap = h' → Wr h h' a j.toNatClampNeg (.long x) → Arv Z h' a k .long z (vs.set i (.long x)) dv → Ends p.tables e below (T'.setTop (mkF m pc' ls st)) P) : Ends p.tables e below (T.setTop (mkF m pc ls (.long x :: .int j :: .ref a :: st))) P := by
  obtain ⟨cl, A, q1, S, M, H, G⟩ := F
  exact s_stJ X hx hZ eT A (inb_of S hj) hd hp fun T' h' X' e' W => kk T' h' X' e' W (Arv.set A q1 S M H G rfl W i hi hl)
theorem s_putC (X : Stand p l e R s m args below meth c T locs cells slots) (hx : p.tables.exec = Jvm.exec) (hZ : Z.Warmed39 s.vm) (eT : T.heap = h) {a : Addr} {k : ClassId} {z : Int32} {vs : List Value} {dv : Value} {j : Int32} {x : Int32} (F : Arv Z h a k .char z vs dv) (hj : ¬ j < 0 ∧ j < z) (i : Nat) (hi : j.toNatClampNeg = i) (hl : i < vs.length) (hd : decode c.code pc = .ok (.castore, 1)) (hp : pc + 1 = pc') (kk : ∀ T' h', Stand p l e R s m args below meth c T' (locs ++ [⟨a, j.toNatClampNeg⟩]) cells slots → T'.heap = h' → Wr h h' a j.toNatClampNeg (.int (nar .char x)) → Arv Z h' a k .char z (vs.set i (.int (nar .char x))) dv → Ends p.tables e below (T'.setTop (mkF m pc' ls st)) P) : Ends p.tables e below (T.setTop (mkF m pc ls (.int x :: .int j :: .ref a :: st))) P := by
  obtain ⟨cl, A, q1, S, M, H, G⟩ := F
  exact s_stC X hx hZ eT A (inb_of S hj) hd hp fun T' h' X' e' W => kk T' h' X' e' W (Arv.set A q1 S M H G (fits_nar_char _) W i hi hl)
theorem s_putB (X : Stand p l e R s m args below meth c T locs cells slots) (hx : p.tables.exec = Jvm.exec) (hZ : Z.Warmed39 s.vm) (eT : T.heap = h) {a : Addr} {k : ClassId} {z : Int32} {vs : List Value} {dv : Value} {j : Int32} {x : Int32} (F : Arv Z h a k .byte z vs dv) (hj : ¬ j < 0 ∧ j < z) (i : Nat) (hi : j.toNatClampNeg = i) (hl : i < vs.length) (hd : decode c.code pc = .ok (.bastore, 1)) (hp : pc + 1 = pc') (kk : ∀ T' h', Stand p l e R s m args below meth c T' (locs ++ [⟨a, j.toNatClampNeg⟩]) cells slots → T'.heap = h' → Wr h h' a j.toNatClampNeg (.int (nar .byte x)) → Arv Z h' a k .byte z (vs.set i (.int (nar .byte x))) dv → Ends p.tables e below (T'.setTop (mkF m pc' ls st)) P) : Ends p.tables e below (T.setTop (mkF m pc ls (.int x :: .int j :: .ref a :: st))) P := by
  obtain ⟨cl, A, q1, S, M, H, G⟩ := F
  exact s_stB X hx hZ eT A (inb_of S hj) hd hp fun T' h' X' e' W => kk T' h' X' e' W (Arv.set A q1 S M H G (fits_nar_byte _) W i hi hl)
theorem s_initO (X : Stand p l e R s m args below meth c T locs cells slots) (hx : p.tables.exec = Jvm.exec) (hZ : Z.Warmed39 s.vm) {own : String} {idx : Nat} (hown : s.vm.findClass own = some m.cls) (w1 : (Jvm.Cond.methodLink own idx Lib.objectInit).before a0 Z = true) (w2 : (Jvm.Cond.instanceMethod Lib.objectInit).before a0 Z = true) (w3 : (Jvm.Cond.code Lib.objectInit ⟨#[0xb1]⟩ 1 none).before a0 Z = true) (eT : T.heap = h) (hsize : ls.size = c.maxLocals) {a : Addr} (hd : decode c.code pc = .ok (.invokespecial idx, 3)) (hf : 1 ≤ R.frames) {W : Nat} (hW : (st.map fun v => v.category).sum ≤ W) (hl : W + 12 ≤ R.locals) (hp : pc + 3 = pc') (k : ∀ T', Stand p l e R s m args below meth c T' locs cells slots → T'.heap = h → Ends p.tables e below (T'.setTop (mkF m pc' ls st)) P) : Ends p.tables e below (T.setTop (mkF m pc ls (.ref a :: st))) P := by
  subst hp
  obtain ⟨T', X', e', s'⟩ := initO X hx hZ hown w1 w2 w3 eT (g := mkF m pc ls (.ref a :: st)) rfl hsize rfl hd hf (W := W) (by show 2 * 0 + _ ≤ _; omega) hl
  exact own_via s' (k T' X' e')
theorem s_castY (X : Stand p l e R s m args below meth c T locs cells slots) (hx : p.tables.exec = Jvm.exec) (hZ : Z.Warmed39 s.vm) {own K : String} {index : Nat} (hown : s.vm.findClass own = some m.cls) (w : (Jvm.Cond.classLink own index K).before a0 Z = true) (eT : T.heap = h) {a : Addr} (F : Ins Z h a K true) (hd : decode c.code pc = .ok (.checkcast index, 3)) (hp : pc + 3 = pc') (k : ∀ T', Stand p l e R s m args below meth c T' locs cells slots → T'.heap = h → Ends p.tables e below (T'.setTop (mkF m pc' ls (.ref a :: st))) P) : Ends p.tables e below (T.setTop (mkF m pc ls (.ref a :: st))) P := by
  subst hp
  obtain ⟨T', X', e', s'⟩ := castY X hx hZ hown w eT F (g := mkF m pc ls (.ref a :: st)) rfl rfl hd
  exact own_via s' (k T' X' e')
theorem s_instY (X : Stand p l e R s m args below meth c T locs cells slots) (hx : p.tables.exec = Jvm.exec) (hZ : Z.Warmed39 s.vm) {own K : String} {index : Nat} (hown : s.vm.findClass own = some m.cls) (w : (Jvm.Cond.classLink own index K).before a0 Z = true) (eT : T.heap = h) {a : Addr} (F : Ins Z h a K true) (hd : decode c.code pc = .ok (.instanceof index, 3)) (hp : pc + 3 = pc') (k : ∀ T', Stand p l e R s m args below meth c T' locs cells slots → T'.heap = h → Ends p.tables e below (T'.setTop (mkF m pc' ls (.int 1 :: st))) P) : Ends p.tables e below (T.setTop (mkF m pc ls (.ref a :: st))) P := by
  subst hp
  obtain ⟨T', X', e', s'⟩ := instY X hx hZ hown w eT F (g := mkF m pc ls (.ref a :: st)) rfl rfl hd
  exact own_via s' (k T' X' e')
theorem s_callS (X : Stand p l e R s m args below meth c T locs cells slots) (hx : p.tables.exec = Jvm.exec) (hZ : Z.Warmed39 s.vm) {y : MethodName} {bytes : ByteArray} {maxL : Nat} {ret : Option FieldType} {rm : Room} {W : Nat} {as' : Array Value} {Q : Option Value → Heap → List Loc → Prop} {own : String} {index : Nat} (hown : s.vm.findClass own = some m.cls) (w1 : (Jvm.Cond.methodLink own index y).before a0 Z = true) (w2 : (Jvm.Cond.static y).before a0 Z = true) (w3 : (Jvm.Cond.initialized y.cls).before a0 Z = true) (w4 : (Jvm.Cond.code y bytes maxL ret).before a0 Z = true) (hy : y.cls ≠ "java/lang/invoke/MethodHandle" ∧ y.cls ≠ "java/lang/invoke/VarHandle") (eT : T.heap = h) (hM : MetFree l y (head1 [Jvm.Cond.code y bytes maxL ret] rm) (fun a U => a = as' ∧ Z.Warmed39 U.vm ∧ U.heap = h) (fun _ _ _ _ _ => True) (fun _ U o U' => ∃ v L, o = .returned v ∧ Q v U'.heap L ∧ FrameEnd U o U' L rm.cells rm.slots)) (hsize : ls.size = c.maxLocals) (argsL rest : List Value) (has : as' = argsL.toArray) (hlen : ∀ sig, parseMethodDescriptor y.desc = some sig → argsL.length = sig.parameters.length) (hstack : st = argsL.reverse ++ rest) (hW : (rest.map fun v => v.category).sum ≤ W) (hf : rm.frames + 1 ≤ R.frames) (hl : W + (maxL + 11) + rm.locals ≤ R.locals) (hce : cells + rm.cells ≤ R.cells) (hsl : slots + rm.slots ≤ R.slots) (hp : pc + 3 = pc') (hd : decode c.code pc = .ok (.invokestatic index, 3)) (k : ∀ T' v L, Stand p l e R s m args below meth c T' (locs ++ L) (cells + rm.cells) (slots + rm.slots) → Q v T'.heap L → Ends p.tables e below (T'.setTop (mkF m pc' ls (v.toList ++ rest))) P) : Ends p.tables e below (T.setTop (mkF m pc ls st)) P := by
  subst hp has hstack
  obtain ⟨v, _, ⟨T', _, _, _⟩, -, X', ⟨L, hQ, e1, e2, e3⟩, s'⟩ := Jvm.LawKit.callS X hx (y := y) hown (mvT hZ w1) (mvT hZ w2) (mvT hZ w3) (mvT hZ w4) hy (backOf (W := W) hM hZ w4 w3 hf hl) (g := mkF m pc ls (argsL.reverse ++ rest)) rfl hsize (argsL := argsL) (rest := rest) hlen rfl (by show 2 * 0 + _ ≤ _; omega) hd (fun _ _ => ⟨rfl, eT, hce, hsl⟩)
  dsimp only [Pt.U, Pt.locs, Pt.cells, Pt.slots] at X' e1 e2 e3 s' hQ
  subst e1 e2 e3
  exact own_via s' (k T' v L X' hQ)
theorem s_callI (X : Stand p l e R s m args below meth c T locs cells slots) (hx : p.tables.exec = Jvm.exec) (hZ : Z.Warmed39 s.vm) {y : MethodName} {bytes : ByteArray} {maxL : Nat} {rm : Room} {W : Nat} {as' : Array Value} {Q : Option Value → Heap → List Loc → Prop} {own : String} {index : Nat} (hy1 : y.name = "<init>") (hown : s.vm.findClass own = some m.cls) (w1 : (Jvm.Cond.methodLink own index y).before a0 Z = true) (w2 : (Jvm.Cond.instanceMethod y).before a0 Z = true) (w3 : (Jvm.Cond.initialized y.cls).before a0 Z = true) (w4 : (Jvm.Cond.code y bytes maxL none).before a0 Z = true) (hy : y.cls ≠ "java/lang/invoke/MethodHandle" ∧ y.cls ≠ "java/lang/invoke/VarHandle") (eT : T.heap = h) (hM : MetFree l y (head1 [Jvm.Cond.code y bytes maxL none] rm) (fun a U => a = as' ∧ Z.Warmed39 U.vm ∧ U.heap = h) (fun _ _ _ _ _ => True) (fun _ U o U' => ∃ v L, o = .returned v ∧ Q v U'.heap L ∧ FrameEnd U o U' L rm.cells rm.slots)) (a : Addr) (hsize : ls.size = c.maxLocals) (argsL rest : List Value) (has : as' = (.ref a :: argsL).toArray) (hlen : ∀ sig, parseMethodDescriptor y.desc = some sig → argsL.length = sig.parameters.length) (hstack : st = argsL.reverse ++ .ref a :: rest) (hW : (rest.map fun v => v.category).sum ≤ W) (hf : rm.frames + 1 ≤ R.frames) (hl : W + (maxL + 11) + rm.locals ≤ R.locals) (hce : cells + rm.cells ≤ R.cells) (hsl : slots + rm.slots ≤ R.slots) (hp : pc + 3 = pc') (hd : decode c.code pc = .ok (.invokespecial index, 3)) (k : ∀ T' v L, Stand p l e R s m args below meth c T' (locs ++ L) (cells + rm.cells) (slots + rm.slots) → Q v T'.heap L → Ends p.tables e below (T'.setTop (mkF m pc' ls (v.toList ++ rest))) P) : Ends p.tables e below (T.setTop (mkF m pc ls st)) P := by
  subst hp has hstack
  obtain ⟨v, _, ⟨T', _, _, _⟩, -, X', ⟨L, hQ, e1, e2, e3⟩, s'⟩ := X.specialBack hx (y := y) hy1 hown (mvT hZ w1) (mvT hZ w2) (mvT hZ w4) hy (backOf (W := W) hM hZ w4 w3 hf hl) (g := mkF m pc ls (argsL.reverse ++ .ref a :: rest)) rfl hsize (Steps.refl _) (a := a) (argsL := argsL) (rest := rest) hlen rfl (by show 2 * 0 + _ ≤ _; omega) hd (fun _ _ => ⟨rfl, eT, hce, hsl⟩)
  dsimp only [Pt.U, Pt.locs, Pt.cells, Pt.slots] at X' e1 e2 e3 s' hQ
  subst e1 e2 e3
  exact own_via (fun t_ k_ => s'.trans k_) (k T' v L X' hQ)
theorem s_callV (X : Stand p l e R s m args below meth c T locs cells slots) (hx : p.tables.exec = Jvm.exec) (hZ : Z.Warmed39 s.vm) {y : MethodName} {bytes : ByteArray} {maxL : Nat} {ret : Option FieldType} {rm : Room} {W : Nat} {as' : Array Value} {Q : Option Value → Heap → List Loc → Prop} {a : Addr} {own C : String} {index : Nat} (hown : s.vm.findClass own = some m.cls) (w1 : (Jvm.Cond.methodLink own index y).before a0 Z = true) (w2 : (Jvm.Cond.declares y).before a0 Z = true) (w3 : (Jvm.Cond.initialized y.cls).before a0 Z = true) (w4 : (Jvm.Cond.code y bytes maxL ret).before a0 Z = true) (w5 : (Jvm.Cond.selects C y y).before a0 Z = true) (w6 : (Jvm.Cond.instanceMethod y).before a0 Z = true) (hy : y.cls ≠ "java/lang/invoke/MethodHandle" ∧ y.cls ≠ "java/lang/invoke/VarHandle") (eT : T.heap = h) (E : Exa Z h a C) (hM : MetFree l y (head1 [Jvm.Cond.code y bytes maxL ret] rm) (fun a U => a = as' ∧ Z.Warmed39 U.vm ∧ U.heap = h) (fun _ _ _ _ _ => True) (fun _ U o U' => ∃ v L, o = .returned v ∧ Q v U'.heap L ∧ FrameEnd U o U' L rm.cells rm.slots)) (hsize : ls.size = c.maxLocals) (argsL rest : List Value) (has : as' = (.ref a :: argsL).toArray) (hlen : ∀ sig, parseMethodDescriptor y.desc = some sig → argsL.length = sig.parameters.length) (hstack : st = argsL.reverse ++ .ref a :: rest) (hW : (rest.map fun v => v.category).sum ≤ W) (hf : rm.frames + 1 ≤ R.frames) (hl : W + (maxL + 11) + rm.locals ≤ R.locals) (hce : cells + rm.cells ≤ R.cells) (hsl : slots + rm.slots ≤ R.slots) (hp : pc + 3 = pc') (hd : decode c.code pc = .ok (.invokevirtual index, 3)) (k : ∀ T' v L, Stand p l e R s m args below meth c T' (locs ++ L) (cells + rm.cells) (slots + rm.slots) → Q v T'.heap L → Ends p.tables e below (T'.setTop (mkF m pc' ls (v.toList ++ rest))) P) : Ends p.tables e below (T.setTop (mkF m pc ls st)) P := by
  subst hp has hstack
  obtain ⟨cq, kq, qa, qb, qc⟩ := isOf hZ eT E
  obtain ⟨v, _, ⟨T', _, _, _⟩, -, X', ⟨L, hQ, e1, e2, e3⟩, s'⟩ := X.virtualBack hx (y := y) (z := y) hown (mvT hZ w1) (mvT hZ w2) (notFace_of_selects (args := #[]) (mvT hZ w5)) (mvT hZ w5) (mvT hZ w6) hy (backOf (W := W) hM hZ w4 w3 hf hl) qa qc (g := mkF m pc ls (argsL.reverse ++ .ref a :: rest)) rfl hsize (Steps.refl _) (argsL := argsL) (rest := rest) hlen rfl (by show 2 * 0 + _ ≤ _; omega) hd (fun _ _ => ⟨rfl, eT, hce, hsl⟩)
  dsimp only [Pt.U, Pt.locs, Pt.cells, Pt.slots] at X' e1 e2 e3 s' hQ
  subst e1 e2 e3
  exact own_via (fun t_ k_ => s'.trans k_) (k T' v L X' hQ)
theorem s_callP (X : Stand p l e R s m args below meth c T locs cells slots) (hx : p.tables.exec = Jvm.exec) (hZ : Z.Warmed39 s.vm) {y : MethodName} {bytes : ByteArray} {maxL : Nat} {ret : Option FieldType} {rm : Room} {W : Nat} {as' : Array Value} {Q : Option Value → Heap → List Loc → Prop} {a : Addr} {own C : String} {index : Nat} {zz : MethodName} (hzz : zz.cls = y.cls) (hown : s.vm.findClass own = some m.cls) (w1 : (Jvm.Cond.methodLink own index y).before a0 Z = true) (w2 : (Jvm.Cond.privateMethod y).before a0 Z = true) (w3 : (Jvm.Cond.initialized y.cls).before a0 Z = true) (w4 : (Jvm.Cond.code y bytes maxL ret).before a0 Z = true) (w5 : (Jvm.Cond.selects zz.cls zz zz).before a0 Z = true) (w6 : (Jvm.Cond.instanceMethod y).before a0 Z = true) (hy : y.cls ≠ "java/lang/invoke/MethodHandle" ∧ y.cls ≠ "java/lang/invoke/VarHandle") (eT : T.heap = h) (E : Exa Z h a C) (hM : MetFree l y (head1 [Jvm.Cond.code y bytes maxL ret] rm) (fun a U => a = as' ∧ Z.Warmed39 U.vm ∧ U.heap = h) (fun _ _ _ _ _ => True) (fun _ U o U' => ∃ v L, o = .returned v ∧ Q v U'.heap L ∧ FrameEnd U o U' L rm.cells rm.slots)) (hsize : ls.size = c.maxLocals) (argsL rest : List Value) (has : as' = (.ref a :: argsL).toArray) (hlen : ∀ sig, parseMethodDescriptor y.desc = some sig → argsL.length = sig.parameters.length) (hstack : st = argsL.reverse ++ .ref a :: rest) (hW : (rest.map fun v => v.category).sum ≤ W) (hf : rm.frames + 1 ≤ R.frames) (hl : W + (maxL + 11) + rm.locals ≤ R.locals) (hce : cells + rm.cells ≤ R.cells) (hsl : slots + rm.slots ≤ R.slots) (hp : pc + 3 = pc') (hd : decode c.code pc = .ok (.invokevirtual index, 3)) (k : ∀ T' v L, Stand p l e R s m args below meth c T' (locs ++ L) (cells + rm.cells) (slots + rm.slots) → Q v T'.heap L → Ends p.tables e below (T'.setTop (mkF m pc' ls (v.toList ++ rest))) P) : Ends p.tables e below (T.setTop (mkF m pc ls st)) P := by
  subst hp has hstack
  obtain ⟨cq, qa, qb⟩ := E.cell
  have hpr := Cond.privateMethod_at (mvP hZ w2 (args := #[]))
  obtain ⟨v, _, ⟨T', _, _, _⟩, -, X', ⟨L, hQ, e1, e2, e3⟩, s'⟩ := X.privateBack hx (y := y) hown (mvT hZ w1) (mvT hZ w6) (own_selPriv hzz (mvT hZ w5) hpr (mvT hZ w6) hy) hpr (mvT hZ w4) hy (backOf (W := W) hM hZ w4 w3 hf hl) (g := mkF m pc ls (argsL.reverse ++ .ref a :: rest)) rfl hsize (Steps.refl _) (a := a) (by rw [eT]; exact qa) qb (argsL := argsL) (rest := rest) hlen rfl (by show 2 * 0 + _ ≤ _; omega) hd (fun _ _ => ⟨rfl, eT, hce, hsl⟩)
  dsimp only [Pt.U, Pt.locs, Pt.cells, Pt.slots] at X' e1 e2 e3 s' hQ
  subst e1 e2 e3
  exact own_via (fun t_ k_ => s'.trans k_) (k T' v L X' hQ)
theorem s_irem (X : Stand p l e R s m args below meth c T locs cells slots) (hx : p.tables.exec = Jvm.exec) {x y : Int32} (hd : decode c.code pc = .ok (.irem, 1)) (hy : y ≠ 0) (hp : pc + 1 = pc') (hr : Ends p.tables e below (T.setTop (mkF m pc' ls (.int (x % y) :: st))) P) : Ends p.tables e below (T.setTop (mkF m pc ls (.int y :: .int x :: st))) P := by
  subst hp
  exact own_via (fun t_ k_ => iremM X hx rfl hd rfl hy k_) hr
theorem s_ldcI (X : Stand p l e R s m args below meth c T locs cells slots) (hx : p.tables.exec = Jvm.exec) (hZ : Z.Warmed39 s.vm) {own : String} {index : Nat} {v : Int32} (hown : s.vm.findClass own = some m.cls) (w : (Jvm.Cond.constant own index v).before a0 Z = true) (hd : decode c.code pc = .ok (.ldc index, 2)) (hp : pc + 2 = pc') (hr : Ends p.tables e below (T.setTop (mkF m pc' ls (.int v :: st))) P) : Ends p.tables e below (T.setTop (mkF m pc ls st)) P := by
  subst hp
  exact own_via (X.ldcInt hx hown (mvT hZ w) (g := mkF m pc ls st) rfl hd) hr
theorem s_ldcJ (X : Stand p l e R s m args below meth c T locs cells slots) (hx : p.tables.exec = Jvm.exec) (hZ : Z.Warmed39 s.vm) {own : String} {index : Nat} {v : Int64} (hown : s.vm.findClass own = some m.cls) (w : (Jvm.Cond.constantLong own index v).before a0 Z = true) (hd : decode c.code pc = .ok (.ldc2_w index, 3)) (hp : pc + 3 = pc') (hr : Ends p.tables e below (T.setTop (mkF m pc' ls (.long v :: st))) P) : Ends p.tables e below (T.setTop (mkF m pc ls st)) P := by
  subst hp
  exact own_via (X.ldc2Long hx hown (mvT hZ w) (g := mkF m pc ls st) rfl hd) hr
theorem s_callSS {vm0 : Vm} (X : Stand p l e R (s.setVm vm0) m args below meth c T locs cells slots) (hx : p.tables.exec = Jvm.exec) (hZ : Z.Warmed39 (s.setVm vm0).vm) {k0 : Nat} (hS : s.Since vm0 k0) (hk : k0 ≤ h.size) {y : MethodName} {bytes : ByteArray} {maxL : Nat} {ret : Option FieldType} {rm : Room} {W : Nat} {as' : Array Value} {Q : Option Value → Heap → List Loc → Prop} {own : String} {index : Nat} (hown : (s.setVm vm0).vm.findClass own = some m.cls) (w1 : (Jvm.Cond.methodLink own index y).before a0 Z = true) (w2 : (Jvm.Cond.static y).before a0 Z = true) (w3 : (Jvm.Cond.initialized y.cls).before a0 Z = true) (w4 : (Jvm.Cond.code y bytes maxL ret).before a0 Z = true) (hy : y.cls ≠ "java/lang/invoke/MethodHandle" ∧ y.cls ≠ "java/lang/invoke/VarHandle") (eT : T.heap = h) (hM : MetFree l y (head1 [Jvm.Cond.code y bytes maxL ret] rm) (fun a U => a = as' ∧ Z.Warmed39 U.vm ∧ U.heap = h) (fun _ _ _ _ _ => True) (fun _ U o U' => ∃ v L, o = .returned v ∧ Q v U'.heap L ∧ ReturnedEndW U o U' L rm.cells rm.slots)) (hsize : ls.size = c.maxLocals) (argsL rest : List Value) (has : as' = argsL.toArray) (hlen : ∀ sig, parseMethodDescriptor y.desc = some sig → argsL.length = sig.parameters.length) (hstack : st = argsL.reverse ++ rest) (hW : (rest.map fun v => v.category).sum ≤ W) (hf : rm.frames + 1 ≤ R.frames) (hl : W + (maxL + 11) + rm.locals ≤ R.locals) (hce : cells + rm.cells ≤ R.cells) (hsl : slots + rm.slots ≤ R.slots) (hp : pc + 3 = pc') (hd : decode c.code pc = .ok (.invokestatic index, 3)) (k : ∀ T' v L, Stand p l e R (s.setVm T'.vm) m args below meth c T' (locs ++ L) (cells + rm.cells) (slots + rm.slots) → s.Since T'.vm T'.heap.size → Z.Warmed39 (s.setVm T'.vm).vm → (s.setVm T'.vm).vm.findClass own = some m.cls → Q v T'.heap L → Ends p.tables e below (T'.setTop (mkF m pc' ls (v.toList ++ rest))) P) : Ends p.tables e below (T.setTop (mkF m pc ls st)) P := by
  subst hp has hstack
  obtain ⟨v, _, ⟨T', _, _, _⟩, -, X', S', g', ⟨L, hQ, e1, e2, e3⟩, s'⟩ := callSS X hx (y := y) hown (mvT hZ w1) (mvT hZ w2) (mvT hZ w3) (mvT hZ w4) hy (backOfS (W := W) hM hZ w4 w3 hf hl) (g := mkF m pc ls (argsL.reverse ++ rest)) rfl hsize (argsL := argsL) (rest := rest) hlen rfl (by show 2 * 0 + _ ≤ _; omega) hd (fun _ _ => ⟨rfl, eT, hce, hsl⟩)
  dsimp only [Pt.U, Pt.locs, Pt.cells, Pt.slots] at X' S' g' e1 e2 e3 s' hQ
  subst e1 e2 e3
  obtain ⟨X2, S2, Z2, o2⟩ := rebS hS (show _ ≤ T.heap.size by rw [eT]; exact hk) X' S' g' hZ hown
  exact own_via (fun t_ k_ => s'.trans k_) (k T' v L X2 S2 Z2 o2 hQ)
theorem s_callIS {vm0 : Vm} (X : Stand p l e R (s.setVm vm0) m args below meth c T locs cells slots) (hx : p.tables.exec = Jvm.exec) (hZ : Z.Warmed39 (s.setVm vm0).vm) {k0 : Nat} (hS : s.Since vm0 k0) (hk : k0 ≤ h.size) {y : MethodName} {bytes : ByteArray} {maxL : Nat} {rm : Room} {W : Nat} {as' : Array Value} {Q : Option Value → Heap → List Loc → Prop} {own : String} {index : Nat} (hown : (s.setVm vm0).vm.findClass own = some m.cls) (hy1 : y.name = "<init>") (w1 : (Jvm.Cond.methodLink own index y).before a0 Z = true) (w2 : (Jvm.Cond.instanceMethod y).before a0 Z = true) (w3 : (Jvm.Cond.initialized y.cls).before a0 Z = true) (w4 : (Jvm.Cond.code y bytes maxL none).before a0 Z = true) (hy : y.cls ≠ "java/lang/invoke/MethodHandle" ∧ y.cls ≠ "java/lang/invoke/VarHandle") (eT : T.heap = h) (hM : MetFree l y (head1 [Jvm.Cond.code y bytes maxL none] rm) (fun a U => a = as' ∧ Z.Warmed39 U.vm ∧ U.heap = h) (fun _ _ _ _ _ => True) (fun _ U o U' => ∃ v L, o = .returned v ∧ Q v U'.heap L ∧ ReturnedEndW U o U' L rm.cells rm.slots)) (a : Addr) (hsize : ls.size = c.maxLocals) (argsL rest : List Value) (has : as' = (.ref a :: argsL).toArray) (hlen : ∀ sig, parseMethodDescriptor y.desc = some sig → argsL.length = sig.parameters.length) (hstack : st = argsL.reverse ++ .ref a :: rest) (hW : (rest.map fun v => v.category).sum ≤ W) (hf : rm.frames + 1 ≤ R.frames) (hl : W + (maxL + 11) + rm.locals ≤ R.locals) (hce : cells + rm.cells ≤ R.cells) (hsl : slots + rm.slots ≤ R.slots) (hp : pc + 3 = pc') (hd : decode c.code pc = .ok (.invokespecial index, 3)) (k : ∀ T' v L, Stand p l e R (s.setVm T'.vm) m args below meth c T' (locs ++ L) (cells + rm.cells) (slots + rm.slots) → s.Since T'.vm T'.heap.size → Z.Warmed39 (s.setVm T'.vm).vm → (s.setVm T'.vm).vm.findClass own = some m.cls → Q v T'.heap L → Ends p.tables e below (T'.setTop (mkF m pc' ls (v.toList ++ rest))) P) : Ends p.tables e below (T.setTop (mkF m pc ls st)) P := by
  subst hp has hstack
  obtain ⟨v, _, ⟨T', _, _, _⟩, -, X', S', g', ⟨L, hQ, e1, e2, e3⟩, s'⟩ := X.specialBackS hx (y := y) hy1 hown (mvT hZ w1) (mvT hZ w2) (mvT hZ w4) hy (backOfS (W := W) hM hZ w4 w3 hf hl) (g := mkF m pc ls (argsL.reverse ++ .ref a :: rest)) rfl hsize (Steps.refl _) (a := a) (argsL := argsL) (rest := rest) hlen rfl (by show 2 * 0 + _ ≤ _; omega) hd (fun _ _ => ⟨rfl, eT, hce, hsl⟩)
  dsimp only [Pt.U, Pt.locs, Pt.cells, Pt.slots] at X' S' g' e1 e2 e3 s' hQ
  subst e1 e2 e3
  obtain ⟨X2, S2, Z2, o2⟩ := rebS hS (show _ ≤ T.heap.size by rw [eT]; exact hk) X' S' g' hZ hown
  exact own_via (fun t_ k_ => s'.trans k_) (k T' v L X2 S2 Z2 o2 hQ)
theorem s_callVS {vm0 : Vm} (X : Stand p l e R (s.setVm vm0) m args below meth c T locs cells slots) (hx : p.tables.exec = Jvm.exec) (hZ : Z.Warmed39 (s.setVm vm0).vm) {k0 : Nat} (hS : s.Since vm0 k0) (hk : k0 ≤ h.size) {y : MethodName} {bytes : ByteArray} {maxL : Nat} {ret : Option FieldType} {rm : Room} {W : Nat} {as' : Array Value} {Q : Option Value → Heap → List Loc → Prop} {a : Addr} {C : String} {own : String} {index : Nat} (hown : (s.setVm vm0).vm.findClass own = some m.cls) (w1 : (Jvm.Cond.methodLink own index y).before a0 Z = true) (w2 : (Jvm.Cond.declares y).before a0 Z = true) (w3 : (Jvm.Cond.initialized y.cls).before a0 Z = true) (w4 : (Jvm.Cond.code y bytes maxL ret).before a0 Z = true) (w5 : (Jvm.Cond.selects C y y).before a0 Z = true) (w6 : (Jvm.Cond.instanceMethod y).before a0 Z = true) (hy : y.cls ≠ "java/lang/invoke/MethodHandle" ∧ y.cls ≠ "java/lang/invoke/VarHandle") (eT : T.heap = h) (E : Exa Z h a C) (hM : MetFree l y (head1 [Jvm.Cond.code y bytes maxL ret] rm) (fun a U => a = as' ∧ Z.Warmed39 U.vm ∧ U.heap = h) (fun _ _ _ _ _ => True) (fun _ U o U' => ∃ v L, o = .returned v ∧ Q v U'.heap L ∧ ReturnedEndW U o U' L rm.cells rm.slots)) (hsize : ls.size = c.maxLocals) (argsL rest : List Value) (has : as' = (.ref a :: argsL).toArray) (hlen : ∀ sig, parseMethodDescriptor y.desc = some sig → argsL.length = sig.parameters.length) (hstack : st = argsL.reverse ++ .ref a :: rest) (hW : (rest.map fun v => v.category).sum ≤ W) (hf : rm.frames + 1 ≤ R.frames) (hl : W + (maxL + 11) + rm.locals ≤ R.locals) (hce : cells + rm.cells ≤ R.cells) (hsl : slots + rm.slots ≤ R.slots) (hp : pc + 3 = pc') (hd : decode c.code pc = .ok (.invokevirtual index, 3)) (k : ∀ T' v L, Stand p l e R (s.setVm T'.vm) m args below meth c T' (locs ++ L) (cells + rm.cells) (slots + rm.slots) → s.Since T'.vm T'.heap.size → Z.Warmed39 (s.setVm T'.vm).vm → (s.setVm T'.vm).vm.findClass own = some m.cls → Q v T'.heap L → Ends p.tables e below (T'.setTop (mkF m pc' ls (v.toList ++ rest))) P) : Ends p.tables e below (T.setTop (mkF m pc ls st)) P := by
  subst hp has hstack
  obtain ⟨cq, kq, qa, qb, qc⟩ := isOf hZ eT E
  obtain ⟨v, _, ⟨T', _, _, _⟩, -, X', S', g', ⟨L, hQ, e1, e2, e3⟩, s'⟩ := X.virtualBackS hx (y := y) (z := y) hown (mvT hZ w1) (mvT hZ w2) (notFace_of_selects (args := #[]) (mvT hZ w5)) (mvT hZ w5) (mvT hZ w6) hy (backOfS (W := W) hM hZ w4 w3 hf hl) qa qc (g := mkF m pc ls (argsL.reverse ++ .ref a :: rest)) rfl hsize (Steps.refl _) (argsL := argsL) (rest := rest) hlen rfl (by show 2 * 0 + _ ≤ _; omega) hd (fun _ _ => ⟨rfl, eT, hce, hsl⟩)
  dsimp only [Pt.U, Pt.locs, Pt.cells, Pt.slots] at X' S' g' e1 e2 e3 s' hQ
  subst e1 e2 e3
  obtain ⟨X2, S2, Z2, o2⟩ := rebS hS (show _ ≤ T.heap.size by rw [eT]; exact hk) X' S' g' hZ hown
  exact own_via (fun t_ k_ => s'.trans k_) (k T' v L X2 S2 Z2 o2 hQ)
theorem s_ldcS {vm0 : Vm} (X : Stand p l e R (s.setVm vm0) m args below meth c T locs cells slots) (hx : p.tables.exec = Jvm.exec) (hZ : Z.Warmed39 (s.setVm vm0).vm) {k0 : Nat} (hS : s.Since vm0 k0) (hk : k0 ≤ h.size) {own : String} {index : Nat} (hown : (s.setVm vm0).vm.findClass own = some m.cls) {text : String} (w : (Jvm.Cond.stringLink own index text).before a0 Z = true) (wS : ∀ a ∈ Bundle.stringAtoms, a.before a0 Z = true) (eT : T.heap = h) (hd : decode c.code pc = .ok (.ldc index, 2)) {n : Nat} (hn : 4 * text.toList.length ≤ n) (hbig : n ≤ 536870912) (hc : cells + 2 ≤ R.cells) (hl : slots + (n + 4) ≤ R.slots) (hp : pc + 2 = pc') (k : ∀ a T' h' k1, Stand p l e R (s.setVm T'.vm) m args below meth c T' locs (cells + 2) (slots + (n + 4)) → T'.heap = h' → Ext h h' → s.Since T'.vm k1 → k1 ≤ h'.size → Z.Warmed39 (s.setVm T'.vm).vm → (s.setVm T'.vm).vm.findClass own = some m.cls → Ends p.tables e below (T'.setTop (mkF m pc' ls (.ref a :: st))) P) : Ends p.tables e below (T.setTop (mkF m pc ls st)) P := by
  subst hp
  obtain ⟨a, T', h', k1, X', e', E', S', g', Z', o', s'⟩ := ldcS X hx hZ hown w wS eT hS hk (g := mkF m pc ls st) rfl hd hn hbig hc hl
  exact own_via s' (k a T' h' k1 X' e' E' S' g' Z' o')
theorem s_ldcSW {vm0 : Vm} (X : Stand p l e R (s.setVm vm0) m args below meth c T locs cells slots) (hx : p.tables.exec = Jvm.exec) (hZ : Z.Warmed39 (s.setVm vm0).vm) {k0 : Nat} (hS : s.Since vm0 k0) (hk : k0 ≤ h.size) {own : String} {index : Nat} (hown : (s.setVm vm0).vm.findClass own = some m.cls) {text : String} (w : (Jvm.Cond.stringLink own index text).before a0 Z = true) (wS : ∀ a ∈ Bundle.stringAtoms, a.before a0 Z = true) (eT : T.heap = h) (hd : decode c.code pc = .ok (.ldc_w index, 3)) {n : Nat} (hn : 4 * text.toList.length ≤ n) (hbig : n ≤ 536870912) (hc : cells + 2 ≤ R.cells) (hl : slots + (n + 4) ≤ R.slots) (hp : pc + 3 = pc') (k : ∀ a T' h' k1, Stand p l e R (s.setVm T'.vm) m args below meth c T' locs (cells + 2) (slots + (n + 4)) → T'.heap = h' → Ext h h' → s.Since T'.vm k1 → k1 ≤ h'.size → Z.Warmed39 (s.setVm T'.vm).vm → (s.setVm T'.vm).vm.findClass own = some m.cls → Ends p.tables e below (T'.setTop (mkF m pc' ls (.ref a :: st))) P) : Ends p.tables e below (T.setTop (mkF m pc ls st)) P := by
  subst hp
  obtain ⟨a, T', h', k1, X', e', E', S', g', Z', o', s'⟩ := ldcSW X hx hZ hown w wS eT hS hk (g := mkF m pc ls st) rfl hd hn hbig hc hl
  exact own_via s' (k a T' h' k1 X' e' E' S' g' Z' o')
end OwnLaws
section OwnHeld
variable {p : Program} {l : Launch} {e : Env} {R : Room} {s : State} {m : MethodId} {args : Array Value} {below : List Frame} {meth : Method} {c : Code} {T : State} {locs : List Loc} {cells slots : Nat} {Z : State} {a0 : Array Value} {EL : List (String × Nat)} {h : Heap} {vm0 : Vm} {P : State → Outcome → Prop} {pc pc' : Nat} {ls : Array Slot} {st : List Value} {sf : List Addr}
theorem own_safe0 {vm : Vm} : ∀ x ∈ ([] : List Addr), x < h.size ∧ Safe Z EL vm h x := fun _ q => nomatch q
theorem own_safeS {vm : Vm} {x : Addr} {L : List Addr} (a : x < h.size) (b : Safe Z EL vm h x) (r : ∀ y ∈ L, y < h.size ∧ Safe Z EL vm h y) : ∀ y ∈ x :: L, y < h.size ∧ Safe Z EL vm h y := fun y q => by
  rcases List.mem_cons.mp q with rfl | q
  · exact ⟨a, b⟩
  · exact r y q
theorem own_backH {y : MethodName} {bytes : ByteArray} {maxL : Nat} {ret : Option FieldType} {rm : Room} {W : Nat} {as' : Array Value} {Q : Option Value → Heap → List Loc → Prop} {len : Nat} (hM : MetFree l y (head1 [Jvm.Cond.code y bytes maxL ret] rm) (fun a U => a = as' ∧ Z.Warmed39 U.vm ∧ U.heap = h ∧ CHv Z EL U.vm h ∧ ∀ x ∈ sf, Safe Z EL U.vm h x) (fun _ _ _ _ _ => True) (fun _ U o U' => ∃ v L, o = .returned v ∧ Q v U'.heap L ∧ CHr Z EL U.vm U.heap U'.vm U'.heap ∧ ReturnedEndW U o U' L rm.cells rm.slots)) (hZ : Z.Warmed39 vm0) (wc : (Jvm.Cond.code y bytes maxL ret).before a0 Z = true) (wz : (Jvm.Cond.initialized y.cls).before a0 Z = true) (hf : rm.frames + 1 ≤ R.frames) (hl : W + (maxL + 11) + rm.locals ≤ R.locals) (hEL : EW Z a0 EL) (H : CHv Z EL vm0 h) (hsf : ∀ x ∈ sf, x < h.size ∧ Safe Z EL vm0 h x) :
    BackS l R p e below (s.setVm vm0) args y len W (fun A a => a = as' ∧ A.U.heap = h ∧ A.cells + rm.cells ≤ R.cells ∧ A.slots + rm.slots ≤ R.slots)
      (fun A _ v B => ∃ L, Q v B.U.heap L ∧ B.locs = A.locs ++ L ∧ B.cells = A.cells + rm.cells ∧ B.slots = A.slots + rm.slots ∧ CHr Z EL vm0 h B.U.vm B.U.heap) := by
  refine BackS.of_freeW (bytes := bytes) (maxL := maxL) (ret := ret) (E := fun _ U o t L k n => k = rm.cells ∧ n = rm.slots ∧ (∃ v, o = .returned v ∧ Q v t.heap L) ∧ CHr Z EL U.vm U.heap t.vm t.heap) hM hf hl ?_ ?_ ?_ ?_ ?_
  · intro m meth c A a Y hp
    have hU : Z.Warmed39 A.U.vm := wtrans (s := s.setVm vm0) hZ Y.warmed
    refine ⟨?_, mv hU wc, mv hU wz, hp.2.2.1, hp.2.2.2⟩
    show (Jvm.Cond.and _ .tt).before a A.U = true
    rw [Cond.before_and, mv hU wc]
    rfl
  · intro m meth c A a g mk Y hp
    have hR := CHv.at Y hZ hEL H
    exact ⟨hp.1, wtrans (s := s.setVm vm0) hZ Y.warmed, hp.2.1, hR.1, fun x hx => hR.safe (hsf x hx).1 (hsf x hx).2⟩
  · intro m meth c A a g mk Y hp
    trivial
  · intro a U o t q
    obtain ⟨v, L, h1, h2, h3, h4⟩ := q
    exact ⟨L, _, _, h4, rfl, rfl, ⟨v, h1, h2⟩, h3⟩
  · intro m meth c A a g mk v t L k n Y hp _ _ q
    obtain ⟨e1, e2, ⟨v', e3, e4⟩, e5⟩ := q
    cases e3
    subst e1 e2
    refine ⟨L, e4, rfl, rfl, rfl, (CHv.at Y hZ hEL H).trans ?_⟩
    rw [← hp.2.1]
    exact e5
theorem s_callSH (X : Stand p l e R (s.setVm vm0) m args below meth c T locs cells slots) (hx : p.tables.exec = Jvm.exec) (hZ : Z.Warmed39 (s.setVm vm0).vm) {k0 : Nat} (hS : s.Since vm0 k0) (hk : k0 ≤ h.size) (hEL : EW Z a0 EL) (HC : CHv Z EL vm0 h) {y : MethodName} {bytes : ByteArray} {maxL : Nat} {ret : Option FieldType} {rm : Room} {W : Nat} {as' : Array Value} {Q : Option Value → Heap → List Loc → Prop} {own : String} {index : Nat} (hown : (s.setVm vm0).vm.findClass own = some m.cls) (w1 : (Jvm.Cond.methodLink own index y).before a0 Z = true) (w2 : (Jvm.Cond.static y).before a0 Z = true) (w3 : (Jvm.Cond.initialized y.cls).before a0 Z = true) (w4 : (Jvm.Cond.code y bytes maxL ret).before a0 Z = true) (hy : y.cls ≠ "java/lang/invoke/MethodHandle" ∧ y.cls ≠ "java/lang/invoke/VarHandle") (eT : T.heap = h) (hM : MetFree l y (head1 [Jvm.Cond.code y bytes maxL ret] rm) (fun a U => a = as' ∧ Z.Warmed39 U.vm ∧ U.heap = h ∧ CHv Z EL U.vm h ∧ ∀ x ∈ sf, Safe Z EL U.vm h x) (fun _ _ _ _ _ => True) (fun _ U o U' => ∃ v L, o = .returned v ∧ Q v U'.heap L ∧ CHr Z EL U.vm U.heap U'.vm U'.heap ∧ ReturnedEndW U o U' L rm.cells rm.slots)) (hsf : ∀ x ∈ sf, x < h.size ∧ Safe Z EL vm0 h x) (hsize : ls.size = c.maxLocals) (argsL rest : List Value) (has : as' = argsL.toArray) (hlen : ∀ sig, parseMethodDescriptor y.desc = some sig → argsL.length = sig.parameters.length) (hstack : st = argsL.reverse ++ rest) (hW : (rest.map fun v => v.category).sum ≤ W) (hf : rm.frames + 1 ≤ R.frames) (hl : W + (maxL + 11) + rm.locals ≤ R.locals) (hce : cells + rm.cells ≤ R.cells) (hsl : slots + rm.slots ≤ R.slots) (hp : pc + 3 = pc') (hd : decode c.code pc = .ok (.invokestatic index, 3)) (k : ∀ T' v L, Stand p l e R (s.setVm T'.vm) m args below meth c T' (locs ++ L) (cells + rm.cells) (slots + rm.slots) → s.Since T'.vm T'.heap.size → Z.Warmed39 (s.setVm T'.vm).vm → (s.setVm T'.vm).vm.findClass own = some m.cls → CHr Z EL vm0 h T'.vm T'.heap → Q v T'.heap L → Ends p.tables e below (T'.setTop (mkF m pc' ls (v.toList ++ rest))) P) : Ends p.tables e below (T.setTop (mkF m pc ls st)) P := by
  subst hp has hstack
  obtain ⟨v, _, ⟨T', _, _, _⟩, -, X', S', g', ⟨L, hQ, e1, e2, e3, e4⟩, s'⟩ := callSS X hx (y := y) hown (mvT hZ w1) (mvT hZ w2) (mvT hZ w3) (mvT hZ w4) hy (own_backH (W := W) hM hZ w4 w3 hf hl hEL HC hsf) (g := mkF m pc ls (argsL.reverse ++ rest)) rfl hsize (argsL := argsL) (rest := rest) hlen rfl (by show 2 * 0 + _ ≤ _; omega) hd (fun _ _ => ⟨rfl, eT, hce, hsl⟩)
  dsimp only [Pt.U, Pt.locs, Pt.cells, Pt.slots] at X' S' g' e1 e2 e3 e4 s' hQ
  subst e1 e2 e3
  obtain ⟨X2, S2, Z2, o2⟩ := rebS hS (show _ ≤ T.heap.size by rw [eT]; exact hk) X' S' g' hZ hown
  exact own_via (fun t_ k_ => s'.trans k_) (k T' v L X2 S2 Z2 o2 e4 hQ)
theorem s_callIH (X : Stand p l e R (s.setVm vm0) m args below meth c T locs cells slots) (hx : p.tables.exec = Jvm.exec) (hZ : Z.Warmed39 (s.setVm vm0).vm) {k0 : Nat} (hS : s.Since vm0 k0) (hk : k0 ≤ h.size) (hEL : EW Z a0 EL) (HC : CHv Z EL vm0 h) {y : MethodName} {bytes : ByteArray} {maxL : Nat} {rm : Room} {W : Nat} {as' : Array Value} {Q : Option Value → Heap → List Loc → Prop} {own : String} {index : Nat} (hown : (s.setVm vm0).vm.findClass own = some m.cls) (hy1 : y.name = "<init>") (w1 : (Jvm.Cond.methodLink own index y).before a0 Z = true) (w2 : (Jvm.Cond.instanceMethod y).before a0 Z = true) (w3 : (Jvm.Cond.initialized y.cls).before a0 Z = true) (w4 : (Jvm.Cond.code y bytes maxL none).before a0 Z = true) (hy : y.cls ≠ "java/lang/invoke/MethodHandle" ∧ y.cls ≠ "java/lang/invoke/VarHandle") (eT : T.heap = h) (hM : MetFree l y (head1 [Jvm.Cond.code y bytes maxL none] rm) (fun a U => a = as' ∧ Z.Warmed39 U.vm ∧ U.heap = h ∧ CHv Z EL U.vm h ∧ ∀ x ∈ sf, Safe Z EL U.vm h x) (fun _ _ _ _ _ => True) (fun _ U o U' => ∃ v L, o = .returned v ∧ Q v U'.heap L ∧ CHr Z EL U.vm U.heap U'.vm U'.heap ∧ ReturnedEndW U o U' L rm.cells rm.slots)) (hsf : ∀ x ∈ sf, x < h.size ∧ Safe Z EL vm0 h x) (a : Addr) (hsize : ls.size = c.maxLocals) (argsL rest : List Value) (has : as' = (.ref a :: argsL).toArray) (hlen : ∀ sig, parseMethodDescriptor y.desc = some sig → argsL.length = sig.parameters.length) (hstack : st = argsL.reverse ++ .ref a :: rest) (hW : (rest.map fun v => v.category).sum ≤ W) (hf : rm.frames + 1 ≤ R.frames) (hl : W + (maxL + 11) + rm.locals ≤ R.locals) (hce : cells + rm.cells ≤ R.cells) (hsl : slots + rm.slots ≤ R.slots) (hp : pc + 3 = pc') (hd : decode c.code pc = .ok (.invokespecial index, 3)) (k : ∀ T' v L, Stand p l e R (s.setVm T'.vm) m args below meth c T' (locs ++ L) (cells + rm.cells) (slots + rm.slots) → s.Since T'.vm T'.heap.size → Z.Warmed39 (s.setVm T'.vm).vm → (s.setVm T'.vm).vm.findClass own = some m.cls → CHr Z EL vm0 h T'.vm T'.heap → Q v T'.heap L → Ends p.tables e below (T'.setTop (mkF m pc' ls (v.toList ++ rest))) P) : Ends p.tables e below (T.setTop (mkF m pc ls st)) P := by
  subst hp has hstack
  obtain ⟨v, _, ⟨T', _, _, _⟩, -, X', S', g', ⟨L, hQ, e1, e2, e3, e4⟩, s'⟩ := X.specialBackS hx (y := y) hy1 hown (mvT hZ w1) (mvT hZ w2) (mvT hZ w4) hy (own_backH (W := W) hM hZ w4 w3 hf hl hEL HC hsf) (g := mkF m pc ls (argsL.reverse ++ .ref a :: rest)) rfl hsize (Steps.refl _) (a := a) (argsL := argsL) (rest := rest) hlen rfl (by show 2 * 0 + _ ≤ _; omega) hd (fun _ _ => ⟨rfl, eT, hce, hsl⟩)
  dsimp only [Pt.U, Pt.locs, Pt.cells, Pt.slots] at X' S' g' e1 e2 e3 e4 s' hQ
  subst e1 e2 e3
  obtain ⟨X2, S2, Z2, o2⟩ := rebS hS (show _ ≤ T.heap.size by rw [eT]; exact hk) X' S' g' hZ hown
  exact own_via (fun t_ k_ => s'.trans k_) (k T' v L X2 S2 Z2 o2 e4 hQ)
theorem s_ldcCH (X : Stand p l e R (s.setVm vm0) m args below meth c T locs cells slots) (hx : p.tables.exec = Jvm.exec) (hZ : Z.Warmed39 (s.setVm vm0).vm) {k0 : Nat} (hS : s.Since vm0 k0) (hk : k0 ≤ h.size) (hEL : EW Z a0 EL) (HC : CHv Z EL vm0 h) {own : String} {index : Nat} (hown : (s.setVm vm0).vm.findClass own = some m.cls) {text : String} (w : (Jvm.Cond.stringLink own index text).before a0 Z = true) (wS : ∀ a ∈ Bundle.stringAtoms, a.before a0 Z = true) (eT : T.heap = h) (hmem : (own, index) ∈ EL) {vs : List Value} {z : Int32} (ht : (∀ c ∈ text.toList, c.toNat < 256) ∧ text.toList.map (fun c => Value.int (Jvm.Lit.byteI c.toNat.toUInt16)) = vs) (hz : ¬ z < 0) (hlz : z.toNatClampNeg = vs.length) (hd : decode c.code pc = .ok (.ldc index, 2)) {n : Nat} (hn : 4 * text.toList.length ≤ n) (hbig : n ≤ 536870912) (hc : cells + 2 ≤ R.cells) (hl : slots + (n + 4) ≤ R.slots) (hp : pc + 2 = pc') (k : ∀ a b kb T' h' k1, Stand p l e R (s.setVm T'.vm) m args below meth c T' locs (cells + 2) (slots + (n + 4)) → T'.heap = h' → Ext h h' → s.Since T'.vm k1 → k1 ≤ h'.size → Z.Warmed39 (s.setVm T'.vm).vm → (s.setVm T'.vm).vm.findClass own = some m.cls → CHr Z EL vm0 h T'.vm h' → Exa Z h' a "java/lang/String" → Fld Z h' a "java/lang/String" "coder" "B" (.int 0) → Fld Z h' a "java/lang/String" "value" "[B" (.ref b) → Arv Z h' b kb .byte z vs (.int 0) → (∀ x, Safe Z EL T'.vm h' x → x ≠ a ∧ x ≠ b) → Ends p.tables e below (T'.setTop (mkF m pc' ls (.ref a :: st))) P) : Ends p.tables e below (T.setTop (mkF m pc ls st)) P := by
  subst hp
  obtain ⟨a, T', h', k1, b, kb, X', e', E', S', g', Z', o', E1, F1, F2, V1, -, -, hr, -, hs, s'⟩ := ldcCH X hx hZ hown w wS eT hS hk hEL hmem HC ht hz hlz (g := mkF m pc ls st) rfl hd hn hbig hc hl
  exact own_via s' (k a b kb T' h' k1 X' e' E' S' g' Z' o' hr E1 F1 F2 V1 hs)
theorem s_ldcOH (X : Stand p l e R (s.setVm vm0) m args below meth c T locs cells slots) (hx : p.tables.exec = Jvm.exec) (hZ : Z.Warmed39 (s.setVm vm0).vm) {k0 : Nat} (hS : s.Since vm0 k0) (hk : k0 ≤ h.size) (hEL : EW Z a0 EL) (HC : CHv Z EL vm0 h) {own : String} {index : Nat} (hown : (s.setVm vm0).vm.findClass own = some m.cls) {text : String} (w : (Jvm.Cond.stringLink own index text).before a0 Z = true) (wS : ∀ a ∈ Bundle.stringAtoms, a.before a0 Z = true) (eT : T.heap = h) (hd : decode c.code pc = .ok (.ldc index, 2)) {n : Nat} (hn : 4 * text.toList.length ≤ n) (hbig : n ≤ 536870912) (hc : cells + 2 ≤ R.cells) (hl : slots + (n + 4) ≤ R.slots) (hp : pc + 2 = pc') (k : ∀ a T' h' k1, Stand p l e R (s.setVm T'.vm) m args below meth c T' locs (cells + 2) (slots + (n + 4)) → T'.heap = h' → Ext h h' → s.Since T'.vm k1 → k1 ≤ h'.size → Z.Warmed39 (s.setVm T'.vm).vm → (s.setVm T'.vm).vm.findClass own = some m.cls → CHr Z EL vm0 h T'.vm h' → Ends p.tables e below (T'.setTop (mkF m pc' ls (.ref a :: st))) P) : Ends p.tables e below (T.setTop (mkF m pc ls st)) P := by
  subst hp
  obtain ⟨a, T', h', k1, X', e', E', S', g', Z', o', hr, -, s'⟩ := ldcOH X hx hZ hown w wS eT hS hk hEL HC (g := mkF m pc ls st) rfl hd hn hbig hc hl
  exact own_via s' (k a T' h' k1 X' e' E' S' g' Z' o' hr)
end OwnHeld

theorem own_wS {Z : State} {a0 : Array Value} (hw : ∀ d ∈ tables_1, d.before a0 Z = true) : ∀ a ∈ Bundle.stringAtoms, a.before a0 Z = true := by
  intro a ha
  simp only [Bundle.stringAtoms, List.mem_cons, List.not_mem_nil, or_false] at ha
  rcases ha with rfl | rfl | rfl | rfl | rfl | rfl | rfl
  · exact (hw _ (List.mem_of_getElem? (i := 13) rfl))
  · exact (hw _ (List.mem_of_getElem? (i := 14) rfl))
  · exact (hw _ (List.mem_of_getElem? (i := 0) rfl))
  · exact (hw _ (List.mem_of_getElem? (i := 15) rfl))
  · exact (hw _ (List.mem_of_getElem? (i := 16) rfl))
  · exact (hw _ (List.mem_of_getElem? (i := 17) rfl))
  · exact (hw _ (List.mem_of_getElem? (i := 18) rfl))
theorem own_EW {Z : State} {a0 : Array Value} (hw : ∀ d ∈ tables_1, d.before a0 Z = true) : EW Z a0 consts_1 := (EW.cons (hw _ (List.mem_of_getElem? (i := 12) rfl)) (by decide +kernel) (EW.cons (hw _ (List.mem_of_getElem? (i := 60) rfl)) (by decide +kernel) EW.nil))
theorem own_r0 {r : Int32} {P : Prop} (h : r = 0 ∨ r = 1) (q : r = 1 ↔ P) (n : ¬ P) : r = 0 := h.resolve_right fun z => n (q.mp z)
theorem own_pick (P : Prop) : ∃ r : Int32, (r = 0 ∨ r = 1) ∧ (r = 1 ↔ P) := by
  by_cases h : P
  · exact ⟨1, Or.inr rfl, fun _ => h, fun _ => rfl⟩
  · exact ⟨0, Or.inl rfl, fun q => absurd q (by decide), fun q => absurd q h⟩
theorem own_byteAt {Z : State} {h : Heap} {a : Addr} {k : ClassId} {z : Int32} {vs : List Value} {d : Value} (F : Arv Z h a k .byte z vs d) {j : Int32} (h0 : ¬ j < 0) (h1 : j < z) : ∃ x : Int32, vs.getD j.toNatClampNeg d = .int x := by
  obtain ⟨c, A, q, S, M, H, G⟩ := F
  have hin := inb_of S ⟨h0, h1⟩
  have g := G j.toNatClampNeg (Nat.lt_of_not_le fun y => hin (Or.inr y))
  cases hv : vs.getD j.toNatClampNeg d with
  | int x => exact ⟨x, rfl⟩
  | _ => rw [hv] at g; simp [fits] at g
theorem own_arvNN {Z : State} {h : Heap} {a : Addr} {k : ClassId} {ty : FieldType} {z : Int32} {vs : List Value} {d : Value} (F : Arv Z h a k ty z vs d) : ¬ z < 0 := by
  obtain ⟨c, A, q, S, M, H, G⟩ := F
  exact M
theorem own_nlt_ {x y : Int32} (h : y.toInt ≤ x.toInt) : ¬ x < y := by
  rw [Int32.lt_iff_toInt_lt]
  omega
theorem own_lt_ {x y : Int32} (h : x.toInt < y.toInt) : x < y := Int32.lt_iff_toInt_lt.mpr h
/-- the array of a booked literal is a byte[] -/
theorem own_litB {Z : State} {EL : List (String × Nat)} {vm : Vm} {h : Heap} {b : Addr} {k : ClassId} {z : Int32} {vs : List Value} {d : Value} (hal : Z.vm.Alike vm) (V : Arv Z h b k .byte z vs d) (B : ¬ Safe Z EL vm h b) : Exa Z h b "[B" := by
  have nst := V.nostat
  have B := Classical.byContradiction B
  obtain ⟨p, hp, u, a, hb, q, hq, F, e⟩ := B
  obtain ⟨cl, ⟨hc, ⟨hst, kk, hkk, comp, hkind⟩, hun⟩, -⟩ := V
  have ha := F.ha
  have hd := F.hd
  obtain ⟨cS, ⟨-, hfS, hcS⟩, ⟨kS, k1, k2, k3⟩, hB, hbyt⟩ := F
  rcases e with e | e
  · subst e
    cases hc.symm.trans (show h[q.sa]? = some q.sC from ha)
    obtain ⟨k', q1, q2⟩ := hal.2.2 _ _ hkk
    rw [hcS] at q1
    cases q1.symm.trans (show vm.classes[cS]? = some kS from k1)
    rw [q2] at k2
    exact absurd (hkind.symm.trans k2) (by simp)
  · subst e
    cases hc.symm.trans (show h[q.sd]? = some q.SA from hd)
    refine ⟨q.SA, kk, hc, ?_, hkk, nst _ hc, fun o => absurd (hkind.symm.trans o) (by simp)⟩
    rw [← hal.findClass]
    exact hB
/-- a byte that Keys.isValid lets pass -/
def own_gv (v : Value) : Bool := match v with
  | .int x => (decide (x < 0) || decide ((32 : Int32) < x)) && !(decide (x = (127 : Int32)))
  | _ => false
def own_V (z : Int32) (vs : List Value) : Prop := ¬ z = 0 ∧ ¬ (250 : Int32) < z ∧ ∀ i, i < z.toNatClampNeg → own_gv (vs.getD i (.int (0 : Int32))) = true
def own_okr (x : Int32) : Int32 := if (32 : Int32) < (x &&& (255 : Int32)) then (if (x &&& (255 : Int32)) = (127 : Int32) then 0 else 1) else 0
theorem own_nb (x : Int32) : nar .byte (x.toInt8.toInt32) = x.toInt8.toInt32 := by
  show (x.toInt8.toInt32).toInt8.toInt32 = x.toInt8.toInt32
  simp
theorem own_gvI (x : Int32) : own_gv (.int x) = true ↔ (x.toInt < 0 ∨ 32 < x.toInt) ∧ x.toInt ≠ 127 := by
  have e0 : (0 : Int32).toInt = 0 := by decide
  have e32 : (32 : Int32).toInt = 32 := by decide
  have e127 : (127 : Int32).toInt = 127 := by decide
  simp only [own_gv, Bool.and_eq_true, Bool.or_eq_true, decide_eq_true_eq, Bool.not_eq_true', decide_eq_false_iff_not, Int32.lt_iff_toInt_lt, ← Int32.toInt_inj, e0, e32, e127, ne_eq]
theorem own_okI (x : Int32) : ¬ own_okr x = 0 ↔ 32 < (x &&& (255 : Int32)).toInt ∧ (x &&& (255 : Int32)).toInt ≠ 127 := by
  have e32 : (32 : Int32).toInt = 32 := by decide
  have e127 : (127 : Int32).toInt = 127 := by decide
  unfold own_okr
  by_cases h1 : (32 : Int32) < (x &&& (255 : Int32))
  · rw [if_pos h1]
    rw [Int32.lt_iff_toInt_lt, e32] at h1
    by_cases h2 : (x &&& (255 : Int32)) = (127 : Int32)
    · rw [if_pos h2, h2, e127]
      exact ⟨fun q => absurd rfl q, fun q => absurd rfl q.2⟩
    · rw [if_neg h2]
      exact ⟨fun _ => ⟨h1, fun q => h2 (Int32.toInt_inj.mp (q.trans e127.symm))⟩, fun _ => by decide⟩
  · rw [if_neg h1]
    rw [Int32.lt_iff_toInt_lt, e32] at h1
    exact ⟨fun q => absurd rfl q, fun q => absurd q.1 h1⟩
theorem own_gok (x : Int32) : own_gv (.int (nar .byte (x.toInt8.toInt32))) = true ↔ ¬ own_okr x = 0 := by
  rw [own_nb, own_gvI, own_okI]
  have h1 := c_i2b x
  have h2 := c_mask x 255 8 (by decide) (by decide)
  omega
theorem own_gok0 {x : Int32} (h : own_okr x = 0) : ¬ own_gv (.int (nar .byte (x.toInt8.toInt32))) = true := fun q => (own_gok x).mp q h
theorem own_getset (l : List Value) (i k : Nat) (v d : Value) (h : i < l.length) : (l.set i v).getD k d = if k = i then v else l.getD k d := by
  rw [List.getD_eq_getElem?_getD, List.getD_eq_getElem?_getD, List.getElem?_set]
  by_cases e : i = k
  · subst e
    simp [h]
  · rw [if_neg e, if_neg (fun q => e q.symm)]
def own_L1 : List Value := [.int (48 : Int32), .int (49 : Int32), .int (50 : Int32), .int (51 : Int32), .int (52 : Int32), .int (53 : Int32), .int (54 : Int32), .int (55 : Int32), .int (56 : Int32), .int (57 : Int32), .int (48 : Int32), .int (49 : Int32), .int (50 : Int32), .int (51 : Int32), .int (52 : Int32), .int (53 : Int32), .int (54 : Int32), .int (55 : Int32), .int (56 : Int32), .int (57 : Int32), .int (48 : Int32), .int (49 : Int32), .int (50 : Int32), .int (51 : Int32), .int (52 : Int32), .int (53 : Int32), .int (54 : Int32), .int (55 : Int32), .int (56 : Int32), .int (57 : Int32), .int (48 : Int32), .int (49 : Int32), .int (50 : Int32), .int (51 : Int32), .int (52 : Int32), .int (53 : Int32), .int (54 : Int32), .int (55 : Int32), .int (56 : Int32), .int (57 : Int32), .int (48 : Int32), .int (49 : Int32), .int (50 : Int32), .int (51 : Int32), .int (52 : Int32), .int (53 : Int32), .int (54 : Int32), .int (55 : Int32), .int (56 : Int32), .int (57 : Int32), .int (48 : Int32), .int (49 : Int32), .int (50 : Int32), .int (51 : Int32), .int (52 : Int32), .int (53 : Int32), .int (54 : Int32), .int (55 : Int32), .int (56 : Int32), .int (57 : Int32), .int (48 : Int32), .int (49 : Int32), .int (50 : Int32), .int (51 : Int32), .int (52 : Int32), .int (53 : Int32), .int (54 : Int32), .int (55 : Int32), .int (56 : Int32), .int (57 : Int32), .int (48 : Int32), .int (49 : Int32), .int (50 : Int32), .int (51 : Int32), .int (52 : Int32), .int (53 : Int32), .int (54 : Int32), .int (55 : Int32), .int (56 : Int32), .int (57 : Int32), .int (48 : Int32), .int (49 : Int32), .int (50 : Int32), .int (51 : Int32), .int (52 : Int32), .int (53 : Int32), .int (54 : Int32), .int (55 : Int32), .int (56 : Int32), .int (57 : Int32), .int (48 : Int32), .int (49 : Int32), .int (50 : Int32), .int (51 : Int32), .int (52 : Int32), .int (53 : Int32), .int (54 : Int32), .int (55 : Int32), .int (56 : Int32), .int (57 : Int32), .int (48 : Int32), .int (49 : Int32), .int (50 : Int32), .int (51 : Int32), .int (52 : Int32), .int (53 : Int32), .int (54 : Int32), .int (55 : Int32), .int (56 : Int32), .int (57 : Int32), .int (48 : Int32), .int (49 : Int32), .int (50 : Int32), .int (51 : Int32), .int (52 : Int32), .int (53 : Int32), .int (54 : Int32), .int (55 : Int32), .int (56 : Int32), .int (57 : Int32), .int (48 : Int32), .int (49 : Int32), .int (50 : Int32), .int (51 : Int32), .int (52 : Int32), .int (53 : Int32), .int (54 : Int32), .int (55 : Int32), .int (56 : Int32), .int (57 : Int32), .int (48 : Int32), .int (49 : Int32), .int (50 : Int32), .int (51 : Int32), .int (52 : Int32), .int (53 : Int32), .int (54 : Int32), .int (55 : Int32), .int (56 : Int32), .int (57 : Int32), .int (48 : Int32), .int (49 : Int32), .int (50 : Int32), .int (51 : Int32), .int (52 : Int32), .int (53 : Int32), .int (54 : Int32), .int (55 : Int32), .int (56 : Int32), .int (57 : Int32), .int (48 : Int32), .int (49 : Int32), .int (50 : Int32), .int (51 : Int32), .int (52 : Int32), .int (53 : Int32), .int (54 : Int32), .int (55 : Int32), .int (56 : Int32), .int (57 : Int32), .int (48 : Int32), .int (49 : Int32), .int (50 : Int32), .int (51 : Int32), .int (52 : Int32), .int (53 : Int32), .int (54 : Int32), .int (55 : Int32), .int (56 : Int32), .int (57 : Int32), .int (48 : Int32), .int (49 : Int32), .int (50 : Int32), .int (51 : Int32), .int (52 : Int32), .int (53 : Int32), .int (54 : Int32), .int (55 : Int32), .int (56 : Int32), .int (57 : Int32), .int (48 : Int32), .int (49 : Int32), .int (50 : Int32), .int (51 : Int32), .int (52 : Int32), .int (53 : Int32), .int (54 : Int32), .int (55 : Int32), .int (56 : Int32), .int (57 : Int32), .int (48 : Int32), .int (49 : Int32), .int (50 : Int32), .int (51 : Int32), .int (52 : Int32), .int (53 : Int32), .int (54 : Int32), .int (55 : Int32), .int (56 : Int32), .int (57 : Int32), .int (48 : Int32), .int (49 : Int32), .int (50 : Int32), .int (51 : Int32), .int (52 : Int32), .int (53 : Int32), .int (54 : Int32), .int (55 : Int32), .int (56 : Int32), .int (57 : Int32), .int (48 : Int32), .int (49 : Int32), .int (50 : Int32), .int (51 : Int32), .int (52 : Int32), .int (53 : Int32), .int (54 : Int32), .int (55 : Int32), .int (56 : Int32), .int (57 : Int32), .int (48 : Int32), .int (49 : Int32), .int (50 : Int32), .int (51 : Int32), .int (52 : Int32), .int (53 : Int32), .int (54 : Int32), .int (55 : Int32), .int (56 : Int32), .int (57 : Int32), .int (48 : Int32), .int (49 : Int32), .int (50 : Int32), .int (51 : Int32), .int (52 : Int32), .int (53 : Int32), .int (54 : Int32), .int (55 : Int32), .int (56 : Int32), .int (57 : Int32), .int (48 : Int32), .int (49 : Int32), .int (50 : Int32), .int (51 : Int32), .int (52 : Int32), .int (53 : Int32), .int (54 : Int32), .int (55 : Int32), .int (56 : Int32), .int (57 : Int32), .int (88 : Int32)]
def own_L0 : List Value := [.int (48 : Int32), .int (49 : Int32), .int (50 : Int32), .int (51 : Int32), .int (52 : Int32), .int (53 : Int32), .int (54 : Int32), .int (55 : Int32), .int (56 : Int32), .int (57 : Int32), .int (48 : Int32), .int (49 : Int32), .int (50 : Int32), .int (51 : Int32), .int (52 : Int32), .int (53 : Int32), .int (54 : Int32), .int (55 : Int32), .int (56 : Int32), .int (57 : Int32), .int (48 : Int32), .int (49 : Int32), .int (50 : Int32), .int (51 : Int32), .int (52 : Int32), .int (53 : Int32), .int (54 : Int32), .int (55 : Int32), .int (56 : Int32), .int (57 : Int32), .int (48 : Int32), .int (49 : Int32), .int (50 : Int32), .int (51 : Int32), .int (52 : Int32), .int (53 : Int32), .int (54 : Int32), .int (55 : Int32), .int (56 : Int32), .int (57 : Int32), .int (48 : Int32), .int (49 : Int32), .int (50 : Int32), .int (51 : Int32), .int (52 : Int32), .int (53 : Int32), .int (54 : Int32), .int (55 : Int32), .int (56 : Int32), .int (57 : Int32), .int (48 : Int32), .int (49 : Int32), .int (50 : Int32), .int (51 : Int32), .int (52 : Int32), .int (53 : Int32), .int (54 : Int32), .int (55 : Int32), .int (56 : Int32), .int (57 : Int32), .int (48 : Int32), .int (49 : Int32), .int (50 : Int32), .int (51 : Int32), .int (52 : Int32), .int (53 : Int32), .int (54 : Int32), .int (55 : Int32), .int (56 : Int32), .int (57 : Int32), .int (48 : Int32), .int (49 : Int32), .int (50 : Int32), .int (51 : Int32), .int (52 : Int32), .int (53 : Int32), .int (54 : Int32), .int (55 : Int32), .int (56 : Int32), .int (57 : Int32), .int (48 : Int32), .int (49 : Int32), .int (50 : Int32), .int (51 : Int32), .int (52 : Int32), .int (53 : Int32), .int (54 : Int32), .int (55 : Int32), .int (56 : Int32), .int (57 : Int32), .int (48 : Int32), .int (49 : Int32), .int (50 : Int32), .int (51 : Int32), .int (52 : Int32), .int (53 : Int32), .int (54 : Int32), .int (55 : Int32), .int (56 : Int32), .int (57 : Int32), .int (48 : Int32), .int (49 : Int32), .int (50 : Int32), .int (51 : Int32), .int (52 : Int32), .int (53 : Int32), .int (54 : Int32), .int (55 : Int32), .int (56 : Int32), .int (57 : Int32), .int (48 : Int32), .int (49 : Int32), .int (50 : Int32), .int (51 : Int32), .int (52 : Int32), .int (53 : Int32), .int (54 : Int32), .int (55 : Int32), .int (56 : Int32), .int (57 : Int32), .int (48 : Int32), .int (49 : Int32), .int (50 : Int32), .int (51 : Int32), .int (52 : Int32), .int (53 : Int32), .int (54 : Int32), .int (55 : Int32), .int (56 : Int32), .int (57 : Int32), .int (48 : Int32), .int (49 : Int32), .int (50 : Int32), .int (51 : Int32), .int (52 : Int32), .int (53 : Int32), .int (54 : Int32), .int (55 : Int32), .int (56 : Int32), .int (57 : Int32), .int (48 : Int32), .int (49 : Int32), .int (50 : Int32), .int (51 : Int32), .int (52 : Int32), .int (53 : Int32), .int (54 : Int32), .int (55 : Int32), .int (56 : Int32), .int (57 : Int32), .int (48 : Int32), .int (49 : Int32), .int (50 : Int32), .int (51 : Int32), .int (52 : Int32), .int (53 : Int32), .int (54 : Int32), .int (55 : Int32), .int (56 : Int32), .int (57 : Int32), .int (48 : Int32), .int (49 : Int32), .int (50 : Int32), .int (51 : Int32), .int (52 : Int32), .int (53 : Int32), .int (54 : Int32), .int (55 : Int32), .int (56 : Int32), .int (57 : Int32), .int (48 : Int32), .int (49 : Int32), .int (50 : Int32), .int (51 : Int32), .int (52 : Int32), .int (53 : Int32), .int (54 : Int32), .int (55 : Int32), .int (56 : Int32), .int (57 : Int32), .int (48 : Int32), .int (49 : Int32), .int (50 : Int32), .int (51 : Int32), .int (52 : Int32), .int (53 : Int32), .int (54 : Int32), .int (55 : Int32), .int (56 : Int32), .int (57 : Int32), .int (48 : Int32), .int (49 : Int32), .int (50 : Int32), .int (51 : Int32), .int (52 : Int32), .int (53 : Int32), .int (54 : Int32), .int (55 : Int32), .int (56 : Int32), .int (57 : Int32), .int (48 : Int32), .int (49 : Int32), .int (50 : Int32), .int (51 : Int32), .int (52 : Int32), .int (53 : Int32), .int (54 : Int32), .int (55 : Int32), .int (56 : Int32), .int (57 : Int32), .int (48 : Int32), .int (49 : Int32), .int (50 : Int32), .int (51 : Int32), .int (52 : Int32), .int (53 : Int32), .int (54 : Int32), .int (55 : Int32), .int (56 : Int32), .int (57 : Int32), .int (48 : Int32), .int (49 : Int32), .int (50 : Int32), .int (51 : Int32), .int (52 : Int32), .int (53 : Int32), .int (54 : Int32), .int (55 : Int32), .int (56 : Int32), .int (57 : Int32), .int (48 : Int32), .int (49 : Int32), .int (50 : Int32), .int (51 : Int32), .int (52 : Int32), .int (53 : Int32), .int (54 : Int32), .int (55 : Int32), .int (56 : Int32), .int (57 : Int32), .int (48 : Int32), .int (49 : Int32), .int (50 : Int32), .int (51 : Int32), .int (52 : Int32), .int (53 : Int32), .int (54 : Int32), .int (55 : Int32), .int (56 : Int32), .int (57 : Int32)]
theorem own_len1 : own_L1.length = 251 := by decide +kernel
theorem own_len0 : own_L0.length = 250 := by decide +kernel
theorem own_all0 : own_L0.all own_gv = true := by decide +kernel
theorem own_good0 (i : Nat) (h : i < 250) : own_gv (own_L0.getD i (.int (0 : Int32))) = true := by
  have hl : i < own_L0.length := by rw [own_len0]; exact h
  have e : own_L0.getD i (.int (0 : Int32)) = own_L0[i] := by rw [List.getD_eq_getElem?_getD, List.getElem?_eq_getElem hl]; rfl
  rw [e]
  exact List.all_eq_true.mp own_all0 _ (List.getElem_mem hl)
theorem own_V0 {i j : Nat} {x y : Value} (hi : i < 250) (hj : j < 250) : own_V (250 : Int32) ((own_L0.set i x).set j y) ↔ own_gv y = true ∧ (i ≠ j → own_gv x = true) := by
  have hl : i < own_L0.length := by rw [own_len0]; exact hi
  have hl2 : j < (own_L0.set i x).length := by rw [List.length_set, own_len0]; exact hj
  have key : ∀ k, ((own_L0.set i x).set j y).getD k (.int (0 : Int32)) = if k = j then y else if k = i then x else own_L0.getD k (.int (0 : Int32)) := fun k => by rw [own_getset _ _ _ _ _ hl2, own_getset _ _ _ _ _ hl]
  constructor
  · rintro ⟨-, -, q⟩
    have qj := q j hj
    have qi := q i hi
    rw [key, if_pos rfl] at qj
    refine ⟨qj, fun ne => ?_⟩
    rw [key, if_neg ne, if_pos rfl] at qi
    exact qi
  · rintro ⟨q1, q2⟩
    refine ⟨by decide, by decide, fun k hk => ?_⟩
    rw [key]
    by_cases e1 : k = j
    · rw [if_pos e1]
      exact q1
    · rw [if_neg e1]
      by_cases e2 : k = i
      · rw [if_pos e2]
        exact q2 fun e => e1 (e2.trans e)
      · rw [if_neg e2]
        exact own_good0 k hk
theorem own_Vl {z : Int32} {vs : List Value} (hz : z.toNatClampNeg = vs.length) (h0 : ¬ z = 0) (h1 : ¬ (250 : Int32) < z) : own_V z vs ↔ ∀ v ∈ vs, own_gv v = true := by
  constructor
  · rintro ⟨-, -, q⟩ v hv
    obtain ⟨i, hi, rfl⟩ := List.getElem_of_mem hv
    have := q i (by rw [hz]; exact hi)
    rw [List.getD_eq_getElem?_getD, List.getElem?_eq_getElem hi] at this
    exact this
  · intro q
    refine ⟨h0, h1, fun i hi => ?_⟩
    rw [hz] at hi
    rw [List.getD_eq_getElem?_getD, List.getElem?_eq_getElem hi]
    exact q _ (List.getElem_mem hi)
theorem own_md (q m : Int32) (d : Int) (hm : m.toInt = d) (hd : 0 < d) : 0 ≤ ((q &&& (2147483647 : Int32)) % m).toInt ∧ ((q &&& (2147483647 : Int32)) % m).toInt < d := by
  have h1 := c_mask q 2147483647 31 (by decide) (by decide)
  have h2 := (c_irem (q &&& (2147483647 : Int32)) m d hm).1 (by omega)
  rw [h2]
  exact ⟨Int.emod_nonneg _ (by omega), Int.emod_lt_of_pos _ hd⟩
theorem own_511 (q n : Int32) (h : n = q &&& (511 : Int32)) : ¬ n < 0 ∧ n.toNatClampNeg ≤ 511 := by
  subst h
  have h1 := c_mask q 511 9 (by decide) (by decide)
  have e0 : (0 : Int32).toInt = 0 := by decide
  have h0 : ¬ (q &&& (511 : Int32)) < 0 := own_nlt_ (by omega)
  have h2 := nat_of h0
  exact ⟨h0, by omega⟩
theorem own_five (q n : Int32) (h : n = (q &&& (7 : Int32)) % (5 : Int32)) : n = 0 ∨ n = 1 ∨ n = 2 ∨ n = 3 ∨ n = 4 := by
  have hm := c_mask q 7 3 (by decide) (by decide)
  have hr := (c_irem (q &&& (7 : Int32)) 5 5 (by decide)).1 (by omega)
  rw [← h] at hr
  have h0 : (0 : Int32).toInt = 0 := by decide
  have h1 : (1 : Int32).toInt = 1 := by decide
  have h2 : (2 : Int32).toInt = 2 := by decide
  have h3 : (3 : Int32).toInt = 3 := by decide
  have h4 : (4 : Int32).toInt = 4 := by decide
  have : n.toInt = (0 : Int32).toInt ∨ n.toInt = (1 : Int32).toInt ∨ n.toInt = (2 : Int32).toInt ∨ n.toInt = (3 : Int32).toInt ∨ n.toInt = (4 : Int32).toInt := by omega
  simpa only [Int32.toInt_inj] using this
theorem own_d1_0 : decode prog_13_method_2_code 0 = .ok (.aload_n 0, 1) := by decide +kernel
theorem own_d1_1 : decode prog_13_method_2_code 1 = .ok (.arraylength, 1) := by decide +kernel
theorem own_d1_2 : decode prog_13_method_2_code 2 = .ok (.ifCond .eq 11, 3) := by decide +kernel
theorem own_d1_13 : decode prog_13_method_2_code 13 = .ok (.iconst 0, 1) := by decide +kernel
theorem own_d1_14 : decode prog_13_method_2_code 14 = .ok (.ireturn, 1) := by decide +kernel
theorem own_d1_5 : decode prog_13_method_2_code 5 = .ok (.aload_n 0, 1) := by decide +kernel
theorem own_d1_6 : decode prog_13_method_2_code 6 = .ok (.arraylength, 1) := by decide +kernel
theorem own_d1_7 : decode prog_13_method_2_code 7 = .ok (.sipush 250, 3) := by decide +kernel
theorem own_d1_10 : decode prog_13_method_2_code 10 = .ok (.if_icmp .le 5, 3) := by decide +kernel
theorem own_d1_15 : decode prog_13_method_2_code 15 = .ok (.aload_n 0, 1) := by decide +kernel
theorem own_d1_16 : decode prog_13_method_2_code 16 = .ok (.astore_n 1, 1) := by decide +kernel
theorem own_d1_17 : decode prog_13_method_2_code 17 = .ok (.aload_n 1, 1) := by decide +kernel
theorem own_d1_18 : decode prog_13_method_2_code 18 = .ok (.arraylength, 1) := by decide +kernel
theorem own_d1_19 : decode prog_13_method_2_code 19 = .ok (.istore_n 2, 1) := by decide +kernel
theorem own_d1_20 : decode prog_13_method_2_code 20 = .ok (.iconst 0, 1) := by decide +kernel
theorem own_d1_21 : decode prog_13_method_2_code 21 = .ok (.istore_n 3, 1) := by decide +kernel
theorem own_d1_22 : decode prog_13_method_2_code 22 = .ok (.iload_n 3, 1) := by decide +kernel
theorem own_d1_23 : decode prog_13_method_2_code 23 = .ok (.iload_n 2, 1) := by decide +kernel
theorem own_d1_24 : decode prog_13_method_2_code 24 = .ok (.if_icmp .ge 35, 3) := by decide +kernel
theorem own_d1_27 : decode prog_13_method_2_code 27 = .ok (.aload_n 1, 1) := by decide +kernel
theorem own_d1_28 : decode prog_13_method_2_code 28 = .ok (.iload_n 3, 1) := by decide +kernel
theorem own_d1_29 : decode prog_13_method_2_code 29 = .ok (.baload, 1) := by decide +kernel
theorem own_d1_30 : decode prog_13_method_2_code 30 = .ok (.istore 4, 2) := by decide +kernel
theorem own_d1_32 : decode prog_13_method_2_code 32 = .ok (.iload 4, 2) := by decide +kernel
theorem own_d1_34 : decode prog_13_method_2_code 34 = .ok (.ifCond .lt 10, 3) := by decide +kernel
theorem own_d1_44 : decode prog_13_method_2_code 44 = .ok (.iload 4, 2) := by decide +kernel
theorem own_d1_46 : decode prog_13_method_2_code 46 = .ok (.bipush 127, 2) := by decide +kernel
theorem own_d1_48 : decode prog_13_method_2_code 48 = .ok (.if_icmp .ne 5, 3) := by decide +kernel
theorem own_d1_53 : decode prog_13_method_2_code 53 = .ok (.iinc 3 1, 3) := by decide +kernel
theorem own_d1_56 : decode prog_13_method_2_code 56 = .ok (.goto (-34), 3) := by decide +kernel
theorem own_d1_37 : decode prog_13_method_2_code 37 = .ok (.iload 4, 2) := by decide +kernel
theorem own_d1_39 : decode prog_13_method_2_code 39 = .ok (.bipush 32, 2) := by decide +kernel
theorem own_d1_41 : decode prog_13_method_2_code 41 = .ok (.if_icmp .le 10, 3) := by decide +kernel
theorem own_d1_51 : decode prog_13_method_2_code 51 = .ok (.iconst 0, 1) := by decide +kernel
theorem own_d1_52 : decode prog_13_method_2_code 52 = .ok (.ireturn, 1) := by decide +kernel
theorem own_d1_59 : decode prog_13_method_2_code 59 = .ok (.iconst 1, 1) := by decide +kernel
theorem own_d1_60 : decode prog_13_method_2_code 60 = .ok (.ireturn, 1) := by decide +kernel
theorem own_pn0 : plainName "tallykeep/engine/Keys" = true := by first | (simp [plainName, overriddenIn]; done) | decide +kernel
theorem own_isv_ef (m : MethodId) (b : Addr) (k : ClassId) (z : Int32) (vs : List Value) (r : Int32) : entryFrame m #[(.ref b)] 5 = mkF m 0 #[.val (.ref b), .unset, .unset, .unset, .unset] [] := by first | (simp [entryFrame, mkF, argsToLocals, Value.category]; done) | rfl
def own_isv_Q (Z : State) (b : Addr) (k : ClassId) (z : Int32) (vs : List Value) (r : Int32) (h0 : Heap) (n0 : Nat) (v : Option Value) (h : Heap) (L : List Loc) : Prop := v = some (.int r) ∧ Fr n0 L ∧ h = h0
set_option maxRecDepth 65536 in
set_option maxHeartbeats 40000000 in
theorem own_isv (l : Launch) (Z : State) (a0 : Array Value) (hw : ∀ d ∈ tables_1, d.before a0 Z = true) (ws : List Jvm.Cond) (b : Addr) (k : ClassId) (z : Int32) (vs : List Value) (r : Int32) (h0 : Heap) (n0 : Nat) (Z0 : n0 ≤ h0.size) (V_b : Arv Z h0 b k .byte z vs (.int (0 : Int32))) (r01 : r = 0 ∨ r = 1) (hrr : r = 1 ↔ own_V z vs) :
    MetFree l (⟨"tallykeep/engine/Keys", "isValid", "([B)Z"⟩ : MethodName) (head1 (Jvm.Cond.code (⟨"tallykeep/engine/Keys", "isValid", "([B)Z"⟩ : MethodName) prog_13_method_2_code 5 (some .boolean) :: ws) ({ frames := 0, cells := 0, slots := 0, locals := 0 } : Room)) (fun as_ U => as_ = #[(.ref b)] ∧ Z.Warmed39 U.vm ∧ U.heap = h0) (fun _ _ _ _ _ => True) (fun _ U_ o_ V_ => ∃ v_ L_, o_ = .returned v_ ∧ own_isv_Q Z b k z vs r h0 n0 v_ V_.heap L_ ∧ FrameEnd U_ o_ V_ L_ ({ frames := 0, cells := 0, slots := 0, locals := 0 } : Room).cells ({ frames := 0, cells := 0, slots := 0, locals := 0 } : Room).slots) := by
  refine MetFree.of_bodySF (plainFor_of_name own_pn0) hisR ?_
  intro p e s m args below meth c s₁ Bd hml0 hP hK
  obtain ⟨rfl, hZ, hh⟩ := hP
  have hx := Bd.exec
  have hby := Bd.bytes
  have hml : c.maxLocals = 5 := hml0
  have hown : s.vm.findClass "tallykeep/engine/Keys" = some m.cls := findClass_of_methodNamed Bd.named
  have hnm := (name_of_methodNamed Bd.named Bd.method).1
  have X0 : Stand p l e ({ frames := 0, cells := 0, slots := 0, locals := 0 } : Room) s m #[(.ref b)] below meth c s₁ [] 0 0 := Stand.of_body Bd
  have e0 : s₁.heap = h0 := by rw [← hh, Bd.state]; rfl
  have N0 := Fr.nil n0
  refine own_begin (own_isv_ef m b k z vs r) ?_
  show Ends p.tables e below (s₁.setTop (mkF m 0 #[.val (.ref b), .unset, .unset, .unset, .unset] [])) _
  have one : (1 : Int32).toInt = 1 := by decide
  have zero : (0 : Int32).toInt = 0 := by decide
  have c127 : (127 : Int32).toInt = 127 := by decide
  have nz := own_arvNN V_b
  have nzi := nat_of nz
  have nz' : 0 ≤ z.toInt := by rw [Int32.lt_iff_toInt_lt] at nz; omega
  refine s_aloadN (pc' := 1) X0.here hx (hb hby own_d1_0) rfl rfl rfl ?_
  refine s_arraylength (pc' := 2) X0 hx hZ e0 V_b (hb hby own_d1_1) rfl ?_
  by_cases hz0 : z = (0 : Int32)
  · refine s_ifYes (pc' := 13) X0.here hx (hb hby own_d1_2) ((if0 _ _).trans (teq hz0).1) (by decide) (by decide) ?_
    refine s_iconst (pc' := 14) X0.here hx (v := (0 : Int32)) (hb hby own_d1_13) rfl rfl ?_
    obtain ⟨fs, hr, hrun, hended, hW, hsame⟩ := X0.leave (v := some (.int (0 : Int32))) (fun h => by rw [Bd.returns] at h; cases h)
    refine ⟨_, _, retN X0 hx (t := .boolean) Bd.returns (by simp) (hb hby own_d1_14) hr, hrun, hended, _, _, rfl, ?_, ⟨_, rfl⟩, hW, hsame.mono (by decide) (by decide)⟩
    show own_isv_Q Z b k z vs r h0 n0 _ s₁.heap _
    rw [e0]
    exact ⟨by rw [own_r0 r01 hrr (fun q => q.1 hz0)] <;> rfl, N0, rfl⟩
  · refine s_ifNo (pc' := 5) X0.here hx (hb hby own_d1_2) ((if0 _ _).trans (feq hz0).1) rfl ?_
    refine s_aloadN (pc' := 6) X0.here hx (hb hby own_d1_5) rfl rfl rfl ?_
    refine s_arraylength (pc' := 7) X0 hx hZ e0 V_b (hb hby own_d1_6) rfl ?_
    refine s_sipush (pc' := 10) X0.here hx (v := (250 : Int32)) (hb hby own_d1_7) rfl rfl ?_
    by_cases hz250 : (250 : Int32) < z
    · refine s_icmpNo (pc' := 13) X0.here hx (hb hby own_d1_10) (tlt hz250).2.2.2 rfl ?_
      refine s_iconst (pc' := 14) X0.here hx (v := (0 : Int32)) (hb hby own_d1_13) rfl rfl ?_
      obtain ⟨fs, hr, hrun, hended, hW, hsame⟩ := X0.leave (v := some (.int (0 : Int32))) (fun h => by rw [Bd.returns] at h; cases h)
      refine ⟨_, _, retN X0 hx (t := .boolean) Bd.returns (by simp) (hb hby own_d1_14) hr, hrun, hended, _, _, rfl, ?_, ⟨_, rfl⟩, hW, hsame.mono (by decide) (by decide)⟩
      show own_isv_Q Z b k z vs r h0 n0 _ s₁.heap _
      rw [e0]
      exact ⟨by rw [own_r0 r01 hrr (fun q => q.2.1 hz250)] <;> rfl, N0, rfl⟩
    · refine s_icmpYes (pc' := 15) X0.here hx (hb hby own_d1_10) (flt hz250).2.2.2 (by decide) (by decide) ?_
      refine s_aloadN (pc' := 16) X0.here hx (hb hby own_d1_15) rfl rfl rfl ?_
      refine s_astoreN (pc' := 17) X0.here hx (l' := #[.val (.ref b), .val (.ref b), .unset, .unset, .unset]) (hb hby own_d1_16) rfl rfl rfl ?_
      refine s_aloadN (pc' := 18) X0.here hx (hb hby own_d1_17) rfl rfl rfl ?_
      refine s_arraylength (pc' := 19) X0 hx hZ e0 V_b (hb hby own_d1_18) rfl ?_
      refine s_istoreN (pc' := 20) X0.here hx (l' := #[.val (.ref b), .val (.ref b), .val (.int z), .unset, .unset]) (hb hby own_d1_19) rfl rfl ?_
      refine s_iconst (pc' := 21) X0.here hx (v := (0 : Int32)) (hb hby own_d1_20) rfl rfl ?_
      refine s_istoreN (pc' := 22) X0.here hx (l' := #[.val (.ref b), .val (.ref b), .val (.int z), .val (.int (0 : Int32)), .unset]) (hb hby own_d1_21) rfl rfl ?_
      have zp : 0 < z.toInt := by
        have q : ¬ z.toInt = (0 : Int32).toInt := fun q => hz0 (Int32.toInt_inj.mp q)
        omega
      have lit0 : ((0 : Int32)).toInt = 0 := by decide
      have i0 : ¬ (0 : Int32) < 0 := own_nlt_ (by omega)
      have i1 : (0 : Int32) < z := own_lt_ (by omega)
      have in_ := nat_of i0
      obtain ⟨x, hx0⟩ := own_byteAt V_b i0 i1
      refine s_iloadN (pc' := 23) X0.here hx (hb hby own_d1_22) rfl rfl ?_
      refine s_iloadN (pc' := 24) X0.here hx (hb hby own_d1_23) rfl rfl ?_
      have hk1 : (0 : Int32) < z := i1
      refine s_icmpNo (pc' := 27) X0.here hx (hb hby own_d1_24) (tlt hk1).2.1 rfl ?_
      refine s_aloadN (pc' := 28) X0.here hx (hb hby own_d1_27) rfl rfl rfl ?_
      refine s_iloadN (pc' := 29) X0.here hx (hb hby own_d1_28) rfl rfl ?_
      refine s_baload (pc' := 30) (v := (.int x)) X0 hx hZ e0 V_b ⟨i0, i1⟩ hx0 (hb hby own_d1_29) rfl ?_
      refine s_istore (pc' := 32) X0.here hx (l' := #[.val (.ref b), .val (.ref b), .val (.int z), .val (.int (0 : Int32)), .val (.int x)]) (hb hby own_d1_30) rfl rfl ?_
      refine s_iload (pc' := 34) X0.here hx (hb hby own_d1_32) rfl rfl ?_
      refine own_join (α := Int32) (fun xx => s₁.setTop (mkF m 22 #[.val (.ref b), .val (.ref b), .val (.int z), .val (.int ((0 : Int32) + (1 : Int32))), .val (.int xx)] [])) (fun xx => (vs.getD 0 (.int (0 : Int32)) = .int xx ∧ own_gv (.int xx) = true)) (fun key => ?_) ?_
      · by_cases hneg : x < (0 : Int32)
        · refine s_ifYes (pc' := 44) X0.here hx (hb hby own_d1_34) ((if0 _ _).trans (tlt hneg).1) (by decide) (by decide) ?_
          refine s_iload (pc' := 46) X0.here hx (hb hby own_d1_44) rfl rfl ?_
          refine s_bipush (pc' := 48) X0.here hx (v := (127 : Int32)) (hb hby own_d1_46) rfl rfl ?_
          have hnegI : x.toInt < 0 := by rw [Int32.lt_iff_toInt_lt] at hneg; omega
          have h127 : ¬ x = (127 : Int32) := fun q => by rw [q] at hnegI; omega
          refine s_icmpYes (pc' := 53) X0.here hx (hb hby own_d1_48) (feq h127).2 (by decide) (by decide) ?_
          have hg : own_gv (.int x) = true := by simp [own_gv, hneg, h127]
          refine s_iinc (pc' := 56) X0.here hx (v := (1 : Int32)) (l' := #[.val (.ref b), .val (.ref b), .val (.int z), .val (.int ((0 : Int32) + (1 : Int32))), .val (.int x)]) (hb hby own_d1_53) rfl rfl rfl rfl ?_
          refine s_goto (pc' := 22) X0.here hx (hb hby own_d1_56) (by decide) (by decide) ?_
          exact key (x) ⟨hx0, hg⟩
        · refine s_ifNo (pc' := 37) X0.here hx (hb hby own_d1_34) ((if0 _ _).trans (flt hneg).1) rfl ?_
          refine s_iload (pc' := 39) X0.here hx (hb hby own_d1_37) rfl rfl ?_
          refine s_bipush (pc' := 41) X0.here hx (v := (32 : Int32)) (hb hby own_d1_39) rfl rfl ?_
          by_cases h32 : (32 : Int32) < x
          · refine s_icmpNo (pc' := 44) X0.here hx (hb hby own_d1_41) (tlt h32).2.2.2 rfl ?_
            refine s_iload (pc' := 46) X0.here hx (hb hby own_d1_44) rfl rfl ?_
            refine s_bipush (pc' := 48) X0.here hx (v := (127 : Int32)) (hb hby own_d1_46) rfl rfl ?_
            by_cases h127 : x = (127 : Int32)
            · refine s_icmpNo (pc' := 51) X0.here hx (hb hby own_d1_48) (teq h127).2 rfl ?_
              refine s_iconst (pc' := 52) X0.here hx (v := (0 : Int32)) (hb hby own_d1_51) rfl rfl ?_
              obtain ⟨fs, hr, hrun, hended, hW, hsame⟩ := X0.leave (v := some (.int (0 : Int32))) (fun h => by rw [Bd.returns] at h; cases h)
              refine ⟨_, _, retN X0 hx (t := .boolean) Bd.returns (by simp) (hb hby own_d1_52) hr, hrun, hended, _, _, rfl, ?_, ⟨_, rfl⟩, hW, hsame.mono (by decide) (by decide)⟩
              show own_isv_Q Z b k z vs r h0 n0 _ s₁.heap _
              rw [e0]
              exact ⟨by rw [own_r0 r01 hrr (fun q => absurd (q.2.2 (0 : Int32).toNatClampNeg (by omega)) (by rw [hx0]; simp [own_gv, h127]))] <;> rfl, N0, rfl⟩
            · refine s_icmpYes (pc' := 53) X0.here hx (hb hby own_d1_48) (feq h127).2 (by decide) (by decide) ?_
              have hg : own_gv (.int x) = true := by simp [own_gv, h32, h127]
              refine s_iinc (pc' := 56) X0.here hx (v := (1 : Int32)) (l' := #[.val (.ref b), .val (.ref b), .val (.int z), .val (.int ((0 : Int32) + (1 : Int32))), .val (.int x)]) (hb hby own_d1_53) rfl rfl rfl rfl ?_
              refine s_goto (pc' := 22) X0.here hx (hb hby own_d1_56) (by decide) (by decide) ?_
              exact key (x) ⟨hx0, hg⟩
          · refine s_icmpYes (pc' := 51) X0.here hx (hb hby own_d1_41) (flt h32).2.2.2 (by decide) (by decide) ?_
            refine s_iconst (pc' := 52) X0.here hx (v := (0 : Int32)) (hb hby own_d1_51) rfl rfl ?_
            obtain ⟨fs, hr, hrun, hended, hW, hsame⟩ := X0.leave (v := some (.int (0 : Int32))) (fun h => by rw [Bd.returns] at h; cases h)
            refine ⟨_, _, retN X0 hx (t := .boolean) Bd.returns (by simp) (hb hby own_d1_52) hr, hrun, hended, _, _, rfl, ?_, ⟨_, rfl⟩, hW, hsame.mono (by decide) (by decide)⟩
            show own_isv_Q Z b k z vs r h0 n0 _ s₁.heap _
            rw [e0]
            exact ⟨by rw [own_r0 r01 hrr (fun q => absurd (q.2.2 (0 : Int32).toNatClampNeg (by omega)) (by rw [hx0]; simp [own_gv, hneg, h32]))] <;> rfl, N0, rfl⟩
      · rintro xx hJ
        try dsimp only at hJ
        try dsimp only
        show Ends p.tables e below (s₁.setTop (mkF m 22 #[.val (.ref b), .val (.ref b), .val (.int z), .val (.int ((0 : Int32) + (1 : Int32))), .val (.int xx)] [])) _
        have l01 : ((0 : Int32) + (1 : Int32)).toInt = 1 := by decide
        have n01 : ((0 : Int32) + (1 : Int32)).toNatClampNeg = 1 := by decide
        obtain ⟨LL2, XLL2, NLL2⟩ : ∃ LL, Stand p l e ({ frames := 0, cells := 0, slots := 0, locals := 0 } : Room) s m #[(.ref b)] below meth c s₁ LL 0 0 ∧ Fr n0 LL := ⟨_, X0, N0⟩
        refine own_join (α := Nat × State × Int32 × Int32) (fun ⟨kk, TT, i, xx⟩ => TT.setTop (mkF m 22 #[.val (.ref b), .val (.ref b), .val (.int z), .val (.int i), .val (.int xx)] [])) (fun ⟨kk, TT, i, xx⟩ => Stand p l e ({ frames := 0, cells := 0, slots := 0, locals := 0 } : Room) s m #[(.ref b)] below meth c TT LL2 0 0 ∧ TT.heap = h0 ∧ (0 ≤ i.toInt ∧ i.toInt + kk = z.toInt ∧ ∀ j, j < i.toNatClampNeg → own_gv (vs.getD j (.int (0 : Int32))) = true)) (fun key => key ((z.toInt - 1).toNat, s₁, ((0 : Int32) + (1 : Int32)), xx) ⟨XLL2, e0, ⟨by omega, by omega, fun j hj => by
            rw [n01] at hj
            obtain rfl : j = 0 := by omega
            rw [hJ.1]
            exact hJ.2⟩⟩) ?_
        rintro ⟨kk, TT, i, xx⟩ ⟨XX, eX, hI⟩
        dsimp only at XX eX hI ⊢
        induction kk generalizing TT i xx with
        | zero =>
          show Ends p.tables e below (TT.setTop (mkF m 22 #[.val (.ref b), .val (.ref b), .val (.int z), .val (.int i), .val (.int xx)] [])) _
          obtain ⟨i_0, i_1, i_2⟩ := hI
          refine s_iloadN (pc' := 23) XX.here hx (hb hby own_d1_22) rfl rfl ?_
          refine s_iloadN (pc' := 24) XX.here hx (hb hby own_d1_23) rfl rfl ?_
          have hk3 : ¬ (i < z) := own_nlt_ (by omega)
          refine s_icmpYes (pc' := 59) XX.here hx (hb hby own_d1_24) (flt hk3).2.1 (by decide) (by decide) ?_
          refine s_iconst (pc' := 60) XX.here hx (v := (1 : Int32)) (hb hby own_d1_59) rfl rfl ?_
          have iz : i.toNatClampNeg = z.toNatClampNeg := by
            have q1 := nat_of (show ¬ i < 0 from own_nlt_ (by omega))
            omega
          have r1 : r = 1 := hrr.mpr ⟨hz0, hz250, fun j hj => i_2 j (by rw [iz]; exact hj)⟩
          obtain ⟨fs, hr, hrun, hended, hW, hsame⟩ := XX.leave (v := some (.int (1 : Int32))) (fun h => by rw [Bd.returns] at h; cases h)
          refine ⟨_, _, retN XX hx (t := .boolean) Bd.returns (by simp) (hb hby own_d1_60) hr, hrun, hended, _, _, rfl, ?_, ⟨_, rfl⟩, hW, hsame.mono (by decide) (by decide)⟩
          show own_isv_Q Z b k z vs r h0 n0 _ TT.heap _
          rw [eX]
          exact ⟨by rw [r1] <;> rfl, NLL2, rfl⟩
        | succ kk ih =>
          show Ends p.tables e below (TT.setTop (mkF m 22 #[.val (.ref b), .val (.ref b), .val (.int z), .val (.int i), .val (.int xx)] [])) _
          obtain ⟨i_0, i_1, i_2⟩ := hI
          have i0 : ¬ i < 0 := own_nlt_ (by omega)
          have i1 : i < z := own_lt_ (by omega)
          have in_ := nat_of i0
          obtain ⟨x, hx0⟩ := own_byteAt V_b i0 i1
          refine s_iloadN (pc' := 23) XX.here hx (hb hby own_d1_22) rfl rfl ?_
          refine s_iloadN (pc' := 24) XX.here hx (hb hby own_d1_23) rfl rfl ?_
          have hk4 : i < z := i1
          refine s_icmpNo (pc' := 27) XX.here hx (hb hby own_d1_24) (tlt hk4).2.1 rfl ?_
          refine s_aloadN (pc' := 28) XX.here hx (hb hby own_d1_27) rfl rfl rfl ?_
          refine s_iloadN (pc' := 29) XX.here hx (hb hby own_d1_28) rfl rfl ?_
          refine s_baload (pc' := 30) (v := (.int x)) XX hx hZ eX V_b ⟨i0, i1⟩ hx0 (hb hby own_d1_29) rfl ?_
          refine s_istore (pc' := 32) XX.here hx (l' := #[.val (.ref b), .val (.ref b), .val (.int z), .val (.int i), .val (.int x)]) (hb hby own_d1_30) rfl rfl ?_
          refine s_iload (pc' := 34) XX.here hx (hb hby own_d1_32) rfl rfl ?_
          by_cases hneg : x < (0 : Int32)
          · refine s_ifYes (pc' := 44) XX.here hx (hb hby own_d1_34) ((if0 _ _).trans (tlt hneg).1) (by decide) (by decide) ?_
            refine s_iload (pc' := 46) XX.here hx (hb hby own_d1_44) rfl rfl ?_
            refine s_bipush (pc' := 48) XX.here hx (v := (127 : Int32)) (hb hby own_d1_46) rfl rfl ?_
            have hnegI : x.toInt < 0 := by rw [Int32.lt_iff_toInt_lt] at hneg; omega
            have h127 : ¬ x = (127 : Int32) := fun q => by rw [q] at hnegI; omega
            refine s_icmpYes (pc' := 53) XX.here hx (hb hby own_d1_48) (feq h127).2 (by decide) (by decide) ?_
            have hg : own_gv (.int x) = true := by simp [own_gv, hneg, h127]
            refine s_iinc (pc' := 56) XX.here hx (v := (1 : Int32)) (l' := #[.val (.ref b), .val (.ref b), .val (.int z), .val (.int (i + (1 : Int32))), .val (.int x)]) (hb hby own_d1_53) rfl rfl rfl rfl ?_
            refine s_goto (pc' := 22) XX.here hx (hb hby own_d1_56) (by decide) (by decide) ?_
            have q3 : (i + (1 : Int32)).toInt = i.toInt + (1 : Int32).toInt := by
              have q4 := c_iadd i (1 : Int32)
              have q5 := rng32 (i + (1 : Int32))
              have q6 := rng32 z
              omega
            have q7 := nat_of (show ¬ (i + (1 : Int32)) < 0 from own_nlt_ (by omega))
            exact ih TT (i + (1 : Int32)) x XX eX (⟨by omega, by omega, fun j hj => by
                by_cases e : j = i.toNatClampNeg
                · rw [e, hx0]; exact hg
                · exact i_2 j (by omega)⟩)
          · refine s_ifNo (pc' := 37) XX.here hx (hb hby own_d1_34) ((if0 _ _).trans (flt hneg).1) rfl ?_
            refine s_iload (pc' := 39) XX.here hx (hb hby own_d1_37) rfl rfl ?_
            refine s_bipush (pc' := 41) XX.here hx (v := (32 : Int32)) (hb hby own_d1_39) rfl rfl ?_
            by_cases h32 : (32 : Int32) < x
            · refine s_icmpNo (pc' := 44) XX.here hx (hb hby own_d1_41) (tlt h32).2.2.2 rfl ?_
              refine s_iload (pc' := 46) XX.here hx (hb hby own_d1_44) rfl rfl ?_
              refine s_bipush (pc' := 48) XX.here hx (v := (127 : Int32)) (hb hby own_d1_46) rfl rfl ?_
              by_cases h127 : x = (127 : Int32)
              · refine s_icmpNo (pc' := 51) XX.here hx (hb hby own_d1_48) (teq h127).2 rfl ?_
                refine s_iconst (pc' := 52) XX.here hx (v := (0 : Int32)) (hb hby own_d1_51) rfl rfl ?_
                obtain ⟨fs, hr, hrun, hended, hW, hsame⟩ := XX.leave (v := some (.int (0 : Int32))) (fun h => by rw [Bd.returns] at h; cases h)
                refine ⟨_, _, retN XX hx (t := .boolean) Bd.returns (by simp) (hb hby own_d1_52) hr, hrun, hended, _, _, rfl, ?_, ⟨_, rfl⟩, hW, hsame.mono (by decide) (by decide)⟩
                show own_isv_Q Z b k z vs r h0 n0 _ TT.heap _
                rw [eX]
                exact ⟨by rw [own_r0 r01 hrr (fun q => absurd (q.2.2 i.toNatClampNeg (by omega)) (by rw [hx0]; simp [own_gv, h127]))] <;> rfl, NLL2, rfl⟩
              · refine s_icmpYes (pc' := 53) XX.here hx (hb hby own_d1_48) (feq h127).2 (by decide) (by decide) ?_
                have hg : own_gv (.int x) = true := by simp [own_gv, h32, h127]
                refine s_iinc (pc' := 56) XX.here hx (v := (1 : Int32)) (l' := #[.val (.ref b), .val (.ref b), .val (.int z), .val (.int (i + (1 : Int32))), .val (.int x)]) (hb hby own_d1_53) rfl rfl rfl rfl ?_
                refine s_goto (pc' := 22) XX.here hx (hb hby own_d1_56) (by decide) (by decide) ?_
                have q3 : (i + (1 : Int32)).toInt = i.toInt + (1 : Int32).toInt := by
                  have q4 := c_iadd i (1 : Int32)
                  have q5 := rng32 (i + (1 : Int32))
                  have q6 := rng32 z
                  omega
                have q7 := nat_of (show ¬ (i + (1 : Int32)) < 0 from own_nlt_ (by omega))
                exact ih TT (i + (1 : Int32)) x XX eX (⟨by omega, by omega, fun j hj => by
                    by_cases e : j = i.toNatClampNeg
                    · rw [e, hx0]; exact hg
                    · exact i_2 j (by omega)⟩)
            · refine s_icmpYes (pc' := 51) XX.here hx (hb hby own_d1_41) (flt h32).2.2.2 (by decide) (by decide) ?_
              refine s_iconst (pc' := 52) XX.here hx (v := (0 : Int32)) (hb hby own_d1_51) rfl rfl ?_
              obtain ⟨fs, hr, hrun, hended, hW, hsame⟩ := XX.leave (v := some (.int (0 : Int32))) (fun h => by rw [Bd.returns] at h; cases h)
              refine ⟨_, _, retN XX hx (t := .boolean) Bd.returns (by simp) (hb hby own_d1_52) hr, hrun, hended, _, _, rfl, ?_, ⟨_, rfl⟩, hW, hsame.mono (by decide) (by decide)⟩
              show own_isv_Q Z b k z vs r h0 n0 _ TT.heap _
              rw [eX]
              exact ⟨by rw [own_r0 r01 hrr (fun q => absurd (q.2.2 i.toNatClampNeg (by omega)) (by rw [hx0]; simp [own_gv, hneg, h32]))] <;> rfl, NLL2, rfl⟩
theorem own_d2_0 : decode method_2_code 0 = .ok (.iload_n 0, 1) := by decide +kernel
theorem own_d2_1 : decode method_2_code 1 = .ok (.sipush 255, 3) := by decide +kernel
theorem own_d2_4 : decode method_2_code 4 = .ok (.iand, 1) := by decide +kernel
theorem own_d2_5 : decode method_2_code 5 = .ok (.istore_n 1, 1) := by decide +kernel
theorem own_d2_6 : decode method_2_code 6 = .ok (.iload_n 1, 1) := by decide +kernel
theorem own_d2_7 : decode method_2_code 7 = .ok (.bipush 32, 2) := by decide +kernel
theorem own_d2_9 : decode method_2_code 9 = .ok (.if_icmp .le 13, 3) := by decide +kernel
theorem own_d2_22 : decode method_2_code 22 = .ok (.iconst 0, 1) := by decide +kernel
theorem own_d2_23 : decode method_2_code 23 = .ok (.ireturn, 1) := by decide +kernel
theorem own_d2_12 : decode method_2_code 12 = .ok (.iload_n 1, 1) := by decide +kernel
theorem own_d2_13 : decode method_2_code 13 = .ok (.bipush 127, 2) := by decide +kernel
theorem own_d2_15 : decode method_2_code 15 = .ok (.if_icmp .eq 7, 3) := by decide +kernel
theorem own_d2_18 : decode method_2_code 18 = .ok (.iconst 1, 1) := by decide +kernel
theorem own_d2_19 : decode method_2_code 19 = .ok (.goto 4, 3) := by decide +kernel
theorem own_pn1 : plainName "tallykeep/engine/KeysIsValidPinLaw" = true := by first | (simp [plainName, overriddenIn]; done) | decide +kernel
theorem own_ok_ef (m : MethodId) (x : Int32) : entryFrame m #[(.int x)] 2 = mkF m 0 #[.val (.int x), .unset] [] := by first | (simp [entryFrame, mkF, argsToLocals, Value.category]; done) | rfl
def own_ok_Q (Z : State) (x : Int32) (h0 : Heap) (n0 : Nat) (v : Option Value) (h : Heap) (L : List Loc) : Prop := v = some (.int (own_okr x)) ∧ Fr n0 L ∧ h = h0
set_option maxRecDepth 65536 in
set_option maxHeartbeats 40000000 in
theorem own_ok (l : Launch) (Z : State) (a0 : Array Value) (hw : ∀ d ∈ tables_1, d.before a0 Z = true) (ws : List Jvm.Cond) (x : Int32) (h0 : Heap) (n0 : Nat) (Z0 : n0 ≤ h0.size) :
    MetFree l (⟨"tallykeep/engine/KeysIsValidPinLaw", "ok", "(I)Z"⟩ : MethodName) (head1 (Jvm.Cond.code (⟨"tallykeep/engine/KeysIsValidPinLaw", "ok", "(I)Z"⟩ : MethodName) method_2_code 2 (some .boolean) :: ws) ({ frames := 0, cells := 0, slots := 0, locals := 0 } : Room)) (fun as_ U => as_ = #[(.int x)] ∧ Z.Warmed39 U.vm ∧ U.heap = h0) (fun _ _ _ _ _ => True) (fun _ U_ o_ V_ => ∃ v_ L_, o_ = .returned v_ ∧ own_ok_Q Z x h0 n0 v_ V_.heap L_ ∧ FrameEnd U_ o_ V_ L_ ({ frames := 0, cells := 0, slots := 0, locals := 0 } : Room).cells ({ frames := 0, cells := 0, slots := 0, locals := 0 } : Room).slots) := by
  refine MetFree.of_bodySF (plainFor_of_name own_pn1) hisR ?_
  intro p e s m args below meth c s₁ Bd hml0 hP hK
  obtain ⟨rfl, hZ, hh⟩ := hP
  have hx := Bd.exec
  have hby := Bd.bytes
  have hml : c.maxLocals = 2 := hml0
  have hown : s.vm.findClass "tallykeep/engine/KeysIsValidPinLaw" = some m.cls := findClass_of_methodNamed Bd.named
  have hnm := (name_of_methodNamed Bd.named Bd.method).1
  have X0 : Stand p l e ({ frames := 0, cells := 0, slots := 0, locals := 0 } : Room) s m #[(.int x)] below meth c s₁ [] 0 0 := Stand.of_body Bd
  have e0 : s₁.heap = h0 := by rw [← hh, Bd.state]; rfl
  have N0 := Fr.nil n0
  refine own_begin (own_ok_ef m x) ?_
  show Ends p.tables e below (s₁.setTop (mkF m 0 #[.val (.int x), .unset] [])) _
  refine s_iloadN (pc' := 1) X0.here hx (hb hby own_d2_0) rfl rfl ?_
  refine s_sipush (pc' := 4) X0.here hx (v := (255 : Int32)) (hb hby own_d2_1) rfl rfl ?_
  refine s_iand (pc' := 5) X0.here hx (hb hby own_d2_4) rfl ?_
  refine s_istoreN (pc' := 6) X0.here hx (l' := #[.val (.int x), .val (.int (x &&& (255 : Int32)))]) (hb hby own_d2_5) rfl rfl ?_
  refine s_iloadN (pc' := 7) X0.here hx (hb hby own_d2_6) rfl rfl ?_
  refine s_bipush (pc' := 9) X0.here hx (v := (32 : Int32)) (hb hby own_d2_7) rfl rfl ?_
  by_cases h32 : (32 : Int32) < (x &&& (255 : Int32))
  · refine s_icmpNo (pc' := 12) X0.here hx (hb hby own_d2_9) (tlt h32).2.2.2 rfl ?_
    refine s_iloadN (pc' := 13) X0.here hx (hb hby own_d2_12) rfl rfl ?_
    refine s_bipush (pc' := 15) X0.here hx (v := (127 : Int32)) (hb hby own_d2_13) rfl rfl ?_
    by_cases h127 : (x &&& (255 : Int32)) = (127 : Int32)
    · refine s_icmpYes (pc' := 22) X0.here hx (hb hby own_d2_15) (teq h127).1 (by decide) (by decide) ?_
      refine s_iconst (pc' := 23) X0.here hx (v := (0 : Int32)) (hb hby own_d2_22) rfl rfl ?_
      obtain ⟨fs, hr, hrun, hended, hW, hsame⟩ := X0.leave (v := some (.int (0 : Int32))) (fun h => by rw [Bd.returns] at h; cases h)
      refine ⟨_, _, retN X0 hx (t := .boolean) Bd.returns (by simp) (hb hby own_d2_23) hr, hrun, hended, _, _, rfl, ?_, ⟨_, rfl⟩, hW, hsame.mono (by decide) (by decide)⟩
      show own_ok_Q Z x h0 n0 _ s₁.heap _
      rw [e0]
      exact ⟨by unfold own_okr; rw [if_pos h32, if_pos h127] <;> rfl, N0, rfl⟩
    · refine s_icmpNo (pc' := 18) X0.here hx (hb hby own_d2_15) (feq h127).1 rfl ?_
      refine s_iconst (pc' := 19) X0.here hx (v := (1 : Int32)) (hb hby own_d2_18) rfl rfl ?_
      refine s_goto (pc' := 23) X0.here hx (hb hby own_d2_19) (by decide) (by decide) ?_
      obtain ⟨fs, hr, hrun, hended, hW, hsame⟩ := X0.leave (v := some (.int (1 : Int32))) (fun h => by rw [Bd.returns] at h; cases h)
      refine ⟨_, _, retN X0 hx (t := .boolean) Bd.returns (by simp) (hb hby own_d2_23) hr, hrun, hended, _, _, rfl, ?_, ⟨_, rfl⟩, hW, hsame.mono (by decide) (by decide)⟩
      show own_ok_Q Z x h0 n0 _ s₁.heap _
      rw [e0]
      exact ⟨by unfold own_okr; rw [if_pos h32, if_neg h127] <;> rfl, N0, rfl⟩
  · refine s_icmpYes (pc' := 22) X0.here hx (hb hby own_d2_9) (flt h32).2.2.2 (by decide) (by decide) ?_
    refine s_iconst (pc' := 23) X0.here hx (v := (0 : Int32)) (hb hby own_d2_22) rfl rfl ?_
    obtain ⟨fs, hr, hrun, hended, hW, hsame⟩ := X0.leave (v := some (.int (0 : Int32))) (fun h => by rw [Bd.returns] at h; cases h)
    refine ⟨_, _, retN X0 hx (t := .boolean) Bd.returns (by simp) (hb hby own_d2_23) hr, hrun, hended, _, _, rfl, ?_, ⟨_, rfl⟩, hW, hsame.mono (by decide) (by decide)⟩
    show own_ok_Q Z x h0 n0 _ s₁.heap _
    rw [e0]
    exact ⟨by unfold own_okr; rw [if_neg h32] <;> rfl, N0, rfl⟩
theorem own_sh0 (z : Int32) : z >>> ((0 : Int32) &&& 31) = z := by
  have h := c_ishr z 0 0 (by decide)
  exact Int32.toInt_inj.mp (by rw [h]; omega)
theorem own_ch (x : Int32) : nar .char ((x &&& (255 : Int32)).toUInt32.toUInt16.toUInt32.toInt32) = x &&& (255 : Int32) := by
  rw [i2c_mask]
  exact i2c_mask x
theorem own_d6_0 : decode jdk_42_method_152_code 0 = .ok (.getstatic 38, 3) := by decide +kernel
theorem own_d6_3 : decode jdk_42_method_152_code 3 = .ok (.ifCond .eq 10, 3) := by decide +kernel
theorem own_d6_6 : decode jdk_42_method_152_code 6 = .ok (.aload_n 0, 1) := by decide +kernel
theorem own_d6_7 : decode jdk_42_method_152_code 7 = .ok (.getfield 15, 3) := by decide +kernel
theorem own_d6_10 : decode jdk_42_method_152_code 10 = .ok (.goto 4, 3) := by decide +kernel
theorem own_d6_14 : decode jdk_42_method_152_code 14 = .ok (.ireturn, 1) := by decide +kernel
theorem own_pn2 : plainName "java/lang/String" = true := by first | (simp [plainName, overriddenIn]; done) | decide +kernel
theorem own_rm6_ef (m : MethodId) (a : Addr) (cs : Int32) : entryFrame m #[(.ref a)] 1 = mkF m 0 #[.val (.ref a)] [] := by first | (simp [entryFrame, mkF, argsToLocals, Value.category]; done) | rfl
def own_rm6_Q (Z : State) (a : Addr) (cs : Int32) (h0 : Heap) (n0 : Nat) (v : Option Value) (h : Heap) (L : List Loc) : Prop := v = some (.int 0) ∧ Fr n0 L ∧ h = h0
set_option maxRecDepth 65536 in
set_option maxHeartbeats 40000000 in
theorem own_rm6 (l : Launch) (Z : State) (a0 : Array Value) (hw : ∀ d ∈ tables_1, d.before a0 Z = true) (ws : List Jvm.Cond) (a : Addr) (cs : Int32) (h0 : Heap) (n0 : Nat) (Z0 : n0 ≤ h0.size) (O0 : Old Z n0 h0) (S_cs : Sta Z Z.heap "java/lang/String" "COMPACT_STRINGS" "Z" (.int cs)) (hcs : ¬ cs = (0 : Int32)) (F_c : Fld Z h0 a "java/lang/String" "coder" "B" (.int (0 : Int32))) :
    MetFree l (⟨"java/lang/String", "coder", "()B"⟩ : MethodName) (head1 (Jvm.Cond.code (⟨"java/lang/String", "coder", "()B"⟩ : MethodName) jdk_42_method_152_code 1 (some .byte) :: ws) ({ frames := 0, cells := 0, slots := 0, locals := 0 } : Room)) (fun as_ U => as_ = #[(.ref a)] ∧ Z.Warmed39 U.vm ∧ U.heap = h0) (fun _ _ _ _ _ => True) (fun _ U_ o_ V_ => ∃ v_ L_, o_ = .returned v_ ∧ own_rm6_Q Z a cs h0 n0 v_ V_.heap L_ ∧ FrameEnd U_ o_ V_ L_ ({ frames := 0, cells := 0, slots := 0, locals := 0 } : Room).cells ({ frames := 0, cells := 0, slots := 0, locals := 0 } : Room).slots) := by
  refine MetFree.of_bodySF (plainFor_of_name own_pn2) hisR ?_
  intro p e s m args below meth c s₁ Bd hml0 hP hK
  obtain ⟨rfl, hZ, hh⟩ := hP
  have hx := Bd.exec
  have hby := Bd.bytes
  have hml : c.maxLocals = 1 := hml0
  have hown : s.vm.findClass "java/lang/String" = some m.cls := findClass_of_methodNamed Bd.named
  have hnm := (name_of_methodNamed Bd.named Bd.method).1
  have X0 : Stand p l e ({ frames := 0, cells := 0, slots := 0, locals := 0 } : Room) s m #[(.ref a)] below meth c s₁ [] 0 0 := Stand.of_body Bd
  have e0 : s₁.heap = h0 := by rw [← hh, Bd.state]; rfl
  have N0 := Fr.nil n0
  refine own_begin (own_rm6_ef m a cs) ?_
  show Ends p.tables e below (s₁.setTop (mkF m 0 #[.val (.ref a)] [])) _
  refine s_getS (pc' := 3) X0 hx hZ hown (host := "") (Or.inl (hw _ (List.mem_of_getElem? (i := 34) rfl))) Via.refl e0 (S_cs.ext O0.2) (hb hby own_d6_0) rfl fun T1 X1 e1 => ?_
  have hk2 : ¬ (cs = (0 : Int32)) := hcs
  refine s_ifNo (pc' := 6) X1.here hx (hb hby own_d6_3) ((if0 _ _).trans (feq hk2).1) rfl ?_
  refine s_aloadN (pc' := 7) X1.here hx (hb hby own_d6_6) rfl rfl rfl ?_
  refine s_getF (pc' := 10) X1 hx hZ hown (host := "") (Or.inl (hw _ (List.mem_of_getElem? (i := 35) rfl))) Via.refl e1 F_c (hb hby own_d6_7) rfl fun T3 X3 e3 => ?_
  refine s_goto (pc' := 14) X3.here hx (hb hby own_d6_10) (by decide) (by decide) ?_
  obtain ⟨fs, hr, hrun, hended, hW, hsame⟩ := X3.leave (v := some (.int (0 : Int32))) (fun h => by rw [Bd.returns] at h; cases h)
  refine ⟨_, _, retN X3 hx (t := .byte) Bd.returns (by simp) (hb hby own_d6_14) hr, hrun, hended, _, _, rfl, ?_, ⟨_, rfl⟩, hW, hsame.mono (by decide) (by decide)⟩
  show own_rm6_Q Z a cs h0 n0 _ T3.heap _
  rw [e3]
  exact ⟨rfl, N0, rfl⟩
theorem own_d9_0 : decode jdk_42_method_27_code 0 = .ok (.iload_n 0, 1) := by decide +kernel
theorem own_d9_1 : decode jdk_42_method_27_code 1 = .ok (.ifCond .ne 11, 3) := by decide +kernel
theorem own_d9_4 : decode jdk_42_method_27_code 4 = .ok (.aload_n 1, 1) := by decide +kernel
theorem own_d9_5 : decode jdk_42_method_27_code 5 = .ok (.invokevirtual 279, 3) := by decide +kernel
theorem own_d9_8 : decode jdk_42_method_27_code 8 = .ok (.checkcast 280, 3) := by decide +kernel
theorem own_d9_11 : decode jdk_42_method_27_code 11 = .ok (.areturn, 1) := by decide +kernel
theorem own_e3_ef (m : MethodId) (b : Addr) (k : ClassId) (z : Int32) (vs : List Value) : entryFrame m #[(.int (0 : Int32)), (.ref b), (.int (1 : Int32))] 10 = mkF m 0 #[.val (.int (0 : Int32)), .val (.ref b), .val (.int (1 : Int32)), .unset, .unset, .unset, .unset, .unset, .unset, .unset] [] := by first | (simp [entryFrame, mkF, argsToLocals, Value.category]; done) | rfl
def own_e3_Q (Z : State) (b : Addr) (k : ClassId) (z : Int32) (vs : List Value) (h0 : Heap) (n0 : Nat) (v : Option Value) (h : Heap) (L : List Loc) : Prop := ∃ b', v = some (.ref b') ∧ Fr n0 L ∧ Keep h0 h [] ∧ h0.size ≤ b' ∧ Arv Z h b' k .byte z vs (.int (0 : Int32))
set_option maxRecDepth 65536 in
set_option maxHeartbeats 40000000 in
theorem own_e3 (l : Launch) (Z : State) (a0 : Array Value) (hw : ∀ d ∈ tables_1, d.before a0 Z = true) (ws : List Jvm.Cond) (b : Addr) (k : ClassId) (z : Int32) (vs : List Value) (h0 : Heap) (n0 : Nat) (Z0 : n0 ≤ h0.size) (V_b : Arv Z h0 b k .byte z vs (.int (0 : Int32))) (E_b : Exa Z h0 b "[B") (hz : z.toNatClampNeg ≤ 251) :
    MetFree l (⟨"java/lang/String", "encode8859_1", "(B[BZ)[B"⟩ : MethodName) (head1 (Jvm.Cond.code (⟨"java/lang/String", "encode8859_1", "(B[BZ)[B"⟩ : MethodName) jdk_42_method_27_code 10 (some (.array .byte)) :: ws) ({ frames := 1, cells := 1, slots := 251, locals := 14 } : Room)) (fun as_ U => as_ = #[(.int (0 : Int32)), (.ref b), (.int (1 : Int32))] ∧ Z.Warmed39 U.vm ∧ U.heap = h0) (fun _ _ _ _ _ => True) (fun _ U_ o_ V_ => ∃ v_ L_, o_ = .returned v_ ∧ own_e3_Q Z b k z vs h0 n0 v_ V_.heap L_ ∧ FrameEnd U_ o_ V_ L_ ({ frames := 1, cells := 1, slots := 251, locals := 14 } : Room).cells ({ frames := 1, cells := 1, slots := 251, locals := 14 } : Room).slots) := by
  refine MetFree.of_bodySF (plainFor_of_name own_pn2) hisR ?_
  intro p e s m args below meth c s₁ Bd hml0 hP hK
  obtain ⟨rfl, hZ, hh⟩ := hP
  have hx := Bd.exec
  have hby := Bd.bytes
  have hml : c.maxLocals = 10 := hml0
  have hown : s.vm.findClass "java/lang/String" = some m.cls := findClass_of_methodNamed Bd.named
  have hnm := (name_of_methodNamed Bd.named Bd.method).1
  have X0 : Stand p l e ({ frames := 1, cells := 1, slots := 251, locals := 14 } : Room) s m #[(.int (0 : Int32)), (.ref b), (.int (1 : Int32))] below meth c s₁ [] 0 0 := Stand.of_body Bd
  have e0 : s₁.heap = h0 := by rw [← hh, Bd.state]; rfl
  have N0 := Fr.nil n0
  refine own_begin (own_e3_ef m b k z vs) ?_
  show Ends p.tables e below (s₁.setTop (mkF m 0 #[.val (.int (0 : Int32)), .val (.ref b), .val (.int (1 : Int32)), .unset, .unset, .unset, .unset, .unset, .unset, .unset] [])) _
  have Kr0 : Keep h0 h0 [] := Keep.refl h0 _
  refine s_iloadN (pc' := 1) X0.here hx (hb hby own_d9_0) rfl rfl ?_
  have hk1 : (0 : Int32) = (0 : Int32) := rfl
  refine s_ifNo (pc' := 4) X0.here hx (hb hby own_d9_1) ((if0 _ _).trans (teq hk1).2) rfl ?_
  refine s_aloadN (pc' := 5) X0.here hx (hb hby own_d9_4) rfl rfl rfl ?_
  obtain ⟨T2, hp2, X2, e2, E2, A2, Ex2, st2⟩ := cloneH X0 hx hZ hown (hw _ (List.mem_of_getElem? (i := 50) rfl)) (hw _ (List.mem_of_getElem? (i := 51) rfl)) (hw _ (List.mem_of_getElem? (i := 55) rfl)) (hw _ (List.mem_of_getElem? (i := 53) rfl)) (hw _ (List.mem_of_getElem? (i := 54) rfl)) (hw _ (List.mem_of_getElem? (i := 56) rfl)) e0 (Arv.arh V_b) E_b (g := (mkF m 5 #[.val (.int (0 : Int32)), .val (.ref b), .val (.int (1 : Int32)), .unset, .unset, .unset, .unset, .unset, .unset, .unset] [(.ref b)])) rfl (by rw [hml]; rfl) rfl (hb hby own_d9_5) (by decide) (W := 0) (cap := 251) (by show 2 * 0 + _ ≤ _; exact Nat.le_of_eq rfl) (by decide) hz (by decide) (by decide)
  obtain ⟨b', gq2⟩ : ∃ z, z = h0.size := ⟨_, rfl⟩
  have g_b' : n0 ≤ b' := Nat.le_trans Z0 (Nat.le_of_eq gq2.symm)
  have sz_b' : h0.size ≤ b' := Nat.le_trans Kr0.1 (Nat.le_of_eq gq2.symm)
  have ne3 : b ≠ b' := Nat.ne_of_lt (Nat.lt_of_lt_of_le V_b.lt (Nat.le_of_eq gq2.symm))
  rw [← gq2] at A2 Ex2 st2
  refine own_via (st2) ?_
  have f4 := V_b.ext E2
  have f5 := E_b.ext E2
  have Z6 : n0 ≤ hp2.size := Nat.le_trans Z0 E2.1
  have K7 : Keep h0 hp2 [] := Kr0.ext E2
  have V8 : Arv Z hp2 b' k .byte z vs (.int (0 : Int32)) := A2
  show Ends p.tables e below (T2.setTop (mkF m 8 #[.val (.int (0 : Int32)), .val (.ref b), .val (.int (1 : Int32)), .unset, .unset, .unset, .unset, .unset, .unset, .unset] [(.ref b')])) _
  refine s_castY (pc' := 11) X2 hx hZ hown (hw _ (List.mem_of_getElem? (i := 57) rfl)) e2 (Ins.self Ex2) (hb hby own_d9_8) rfl fun T9 X9 e9 => ?_
  obtain ⟨fs, hr, hrun, hended, hW, hsame⟩ := X9.leave (v := some (.ref b')) (fun h => by rw [Bd.returns] at h; cases h)
  refine ⟨_, _, retOut X9 hx Bd.returns rfl (Or.inr (Or.inr (Or.inr (Or.inr ⟨rfl, rfl, rfl⟩)))) (hb hby own_d9_11) hr, hrun, hended, _, _, rfl, ?_, ⟨_, rfl⟩, hW, hsame.mono (by decide) (by decide)⟩
  show own_e3_Q Z b k z vs h0 n0 _ T9.heap _
  rw [e9]
  exact ⟨b', rfl, N0, K7, sz_b', V8⟩
theorem own_d8_0 : decode jdk_42_method_26_code 0 = .ok (.iload_n 0, 1) := by decide +kernel
theorem own_d8_1 : decode jdk_42_method_26_code 1 = .ok (.aload_n 1, 1) := by decide +kernel
theorem own_d8_2 : decode jdk_42_method_26_code 2 = .ok (.iconst 1, 1) := by decide +kernel
theorem own_d8_3 : decode jdk_42_method_26_code 3 = .ok (.invokestatic 351, 3) := by decide +kernel
theorem own_pd0 : parseMethodDescriptor "(B[BZ)[B" = some ⟨[.byte, (.array .byte), .boolean], some (.array .byte)⟩ := by decide +kernel
theorem own_d8_6 : decode jdk_42_method_26_code 6 = .ok (.areturn, 1) := by decide +kernel
theorem own_e2_ef (m : MethodId) (b : Addr) (k : ClassId) (z : Int32) (vs : List Value) : entryFrame m #[(.int (0 : Int32)), (.ref b)] 2 = mkF m 0 #[.val (.int (0 : Int32)), .val (.ref b)] [] := by first | (simp [entryFrame, mkF, argsToLocals, Value.category]; done) | rfl
def own_e2_Q (Z : State) (b : Addr) (k : ClassId) (z : Int32) (vs : List Value) (h0 : Heap) (n0 : Nat) (v : Option Value) (h : Heap) (L : List Loc) : Prop := ∃ b', v = some (.ref b') ∧ Fr n0 L ∧ Keep h0 h [] ∧ h0.size ≤ b' ∧ Arv Z h b' k .byte z vs (.int (0 : Int32))
set_option maxRecDepth 65536 in
set_option maxHeartbeats 40000000 in
theorem own_e2 (l : Launch) (Z : State) (a0 : Array Value) (hw : ∀ d ∈ tables_1, d.before a0 Z = true) (ws : List Jvm.Cond) (b : Addr) (k : ClassId) (z : Int32) (vs : List Value) (h0 : Heap) (n0 : Nat) (Z0 : n0 ≤ h0.size) (V_b : Arv Z h0 b k .byte z vs (.int (0 : Int32))) (E_b : Exa Z h0 b "[B") (hz : z.toNatClampNeg ≤ 251) :
    MetFree l (⟨"java/lang/String", "encode8859_1", "(B[B)[B"⟩ : MethodName) (head1 (Jvm.Cond.code (⟨"java/lang/String", "encode8859_1", "(B[B)[B"⟩ : MethodName) jdk_42_method_26_code 2 (some (.array .byte)) :: ws) ({ frames := 2, cells := 1, slots := 251, locals := 35 } : Room)) (fun as_ U => as_ = #[(.int (0 : Int32)), (.ref b)] ∧ Z.Warmed39 U.vm ∧ U.heap = h0) (fun _ _ _ _ _ => True) (fun _ U_ o_ V_ => ∃ v_ L_, o_ = .returned v_ ∧ own_e2_Q Z b k z vs h0 n0 v_ V_.heap L_ ∧ FrameEnd U_ o_ V_ L_ ({ frames := 2, cells := 1, slots := 251, locals := 35 } : Room).cells ({ frames := 2, cells := 1, slots := 251, locals := 35 } : Room).slots) := by
  refine MetFree.of_bodySF (plainFor_of_name own_pn2) hisR ?_
  intro p e s m args below meth c s₁ Bd hml0 hP hK
  obtain ⟨rfl, hZ, hh⟩ := hP
  have hx := Bd.exec
  have hby := Bd.bytes
  have hml : c.maxLocals = 2 := hml0
  have hown : s.vm.findClass "java/lang/String" = some m.cls := findClass_of_methodNamed Bd.named
  have hnm := (name_of_methodNamed Bd.named Bd.method).1
  have X0 : Stand p l e ({ frames := 2, cells := 1, slots := 251, locals := 35 } : Room) s m #[(.int (0 : Int32)), (.ref b)] below meth c s₁ [] 0 0 := Stand.of_body Bd
  have e0 : s₁.heap = h0 := by rw [← hh, Bd.state]; rfl
  have N0 := Fr.nil n0
  refine own_begin (own_e2_ef m b k z vs) ?_
  show Ends p.tables e below (s₁.setTop (mkF m 0 #[.val (.int (0 : Int32)), .val (.ref b)] [])) _
  have Kr0 : Keep h0 h0 [] := Keep.refl h0 _
  refine s_iloadN (pc' := 1) X0.here hx (hb hby own_d8_0) rfl rfl ?_
  refine s_aloadN (pc' := 2) X0.here hx (hb hby own_d8_1) rfl rfl rfl ?_
  refine s_iconst (pc' := 3) X0.here hx (v := (1 : Int32)) (hb hby own_d8_2) rfl rfl ?_
  refine s_callS (pc' := 6) (W := 0) X0 hx hZ  hown (hw _ (List.mem_of_getElem? (i := 47) rfl)) (hw _ (List.mem_of_getElem? (i := 48) rfl)) (hw _ (List.mem_of_getElem? (i := 13) rfl)) (hw _ (List.mem_of_getElem? (i := 49) rfl)) (by decide) e0 (own_e3 l Z a0 hw [] b k z vs h0 n0 Z0 V_b E_b hz) (by rw [hml]; rfl) [(.int (0 : Int32)), (.ref b), (.int (1 : Int32))] [] rfl (lenOf own_pd0 rfl) rfl (Nat.le_of_eq rfl) (by decide) (by decide) (by decide) (by decide) rfl (hb hby own_d8_3) fun T1 v1 Lc1 X1 hQ1 => ?_
  obtain ⟨b', rfl, Nq1, Kq1, szb, Vb⟩ := hQ1
  have N1 := Fr.app N0 Nq1
  have Z2 : n0 ≤ T1.heap.size := Nat.le_trans Z0 Kq1.1
  have K3 : Keep h0 T1.heap [] := Kr0.trans Kq1 all0
  show Ends p.tables e below (T1.setTop (mkF m 6 #[.val (.int (0 : Int32)), .val (.ref b)] [(.ref b')])) _
  obtain ⟨fs, hr, hrun, hended, hW, hsame⟩ := X1.leave (v := some (.ref b')) (fun h => by rw [Bd.returns] at h; cases h)
  refine ⟨_, _, retOut X1 hx Bd.returns rfl (Or.inr (Or.inr (Or.inr (Or.inr ⟨rfl, rfl, rfl⟩)))) (hb hby own_d8_6) hr, hrun, hended, _, _, rfl, ?_, ⟨_, rfl⟩, hW, hsame.mono (by decide) (by decide)⟩
  show own_e2_Q Z b k z vs h0 n0 _ T1.heap _
  exact ⟨b', rfl, N1, K3, szb, Vb⟩
theorem own_d7_0 : decode jdk_42_method_18_code 0 = .ok (.aload_n 0, 1) := by decide +kernel
theorem own_d7_1 : decode jdk_42_method_18_code 1 = .ok (.getstatic 86, 3) := by decide +kernel
theorem own_d7_4 : decode jdk_42_method_18_code 4 = .ok (.if_acmp .ne 10, 3) := by decide +kernel
theorem own_d7_14 : decode jdk_42_method_18_code 14 = .ok (.aload_n 0, 1) := by decide +kernel
theorem own_d7_15 : decode jdk_42_method_18_code 15 = .ok (.getstatic 116, 3) := by decide +kernel
theorem own_d7_18 : decode jdk_42_method_18_code 18 = .ok (.if_acmp .ne 9, 3) := by decide +kernel
theorem own_d7_21 : decode jdk_42_method_18_code 21 = .ok (.iload_n 1, 1) := by decide +kernel
theorem own_d7_22 : decode jdk_42_method_18_code 22 = .ok (.aload_n 2, 1) := by decide +kernel
theorem own_d7_23 : decode jdk_42_method_18_code 23 = .ok (.invokestatic 256, 3) := by decide +kernel
theorem own_pd1 : parseMethodDescriptor "(B[B)[B" = some ⟨[.byte, (.array .byte)], some (.array .byte)⟩ := by decide +kernel
theorem own_d7_26 : decode jdk_42_method_18_code 26 = .ok (.areturn, 1) := by decide +kernel
theorem own_enc_ef (m : MethodId) (ci : Addr) (cu : Addr) (b : Addr) (k : ClassId) (z : Int32) (vs : List Value) : entryFrame m #[(.ref ci), (.int (0 : Int32)), (.ref b)] 3 = mkF m 0 #[.val (.ref ci), .val (.int (0 : Int32)), .val (.ref b)] [] := by first | (simp [entryFrame, mkF, argsToLocals, Value.category]; done) | rfl
def own_enc_Q (Z : State) (ci : Addr) (cu : Addr) (b : Addr) (k : ClassId) (z : Int32) (vs : List Value) (h0 : Heap) (n0 : Nat) (v : Option Value) (h : Heap) (L : List Loc) : Prop := ∃ b', v = some (.ref b') ∧ Fr n0 L ∧ Keep h0 h [] ∧ h0.size ≤ b' ∧ Arv Z h b' k .byte z vs (.int (0 : Int32))
set_option maxRecDepth 65536 in
set_option maxHeartbeats 40000000 in
theorem own_enc (l : Launch) (Z : State) (a0 : Array Value) (hw : ∀ d ∈ tables_1, d.before a0 Z = true) (ws : List Jvm.Cond) (ci : Addr) (cu : Addr) (b : Addr) (k : ClassId) (z : Int32) (vs : List Value) (h0 : Heap) (n0 : Nat) (Z0 : n0 ≤ h0.size) (O0 : Old Z n0 h0) (S_i : Sta Z Z.heap "sun/nio/cs/ISO_8859_1" "INSTANCE" "Lsun/nio/cs/ISO_8859_1;" (.ref ci)) (S_u : Sta Z Z.heap "sun/nio/cs/UTF_8" "INSTANCE" "Lsun/nio/cs/UTF_8;" (.ref cu)) (ne_c : ¬ ci = cu) (V_b : Arv Z h0 b k .byte z vs (.int (0 : Int32))) (E_b : Exa Z h0 b "[B") (hz : z.toNatClampNeg ≤ 251) :
    MetFree l (⟨"java/lang/String", "encode", "(Ljava/nio/charset/Charset;B[B)[B"⟩ : MethodName) (head1 (Jvm.Cond.code (⟨"java/lang/String", "encode", "(Ljava/nio/charset/Charset;B[B)[B"⟩ : MethodName) jdk_42_method_18_code 3 (some (.array .byte)) :: ws) ({ frames := 3, cells := 1, slots := 251, locals := 48 } : Room)) (fun as_ U => as_ = #[(.ref ci), (.int (0 : Int32)), (.ref b)] ∧ Z.Warmed39 U.vm ∧ U.heap = h0) (fun _ _ _ _ _ => True) (fun _ U_ o_ V_ => ∃ v_ L_, o_ = .returned v_ ∧ own_enc_Q Z ci cu b k z vs h0 n0 v_ V_.heap L_ ∧ FrameEnd U_ o_ V_ L_ ({ frames := 3, cells := 1, slots := 251, locals := 48 } : Room).cells ({ frames := 3, cells := 1, slots := 251, locals := 48 } : Room).slots) := by
  refine MetFree.of_bodySF (plainFor_of_name own_pn2) hisR ?_
  intro p e s m args below meth c s₁ Bd hml0 hP hK
  obtain ⟨rfl, hZ, hh⟩ := hP
  have hx := Bd.exec
  have hby := Bd.bytes
  have hml : c.maxLocals = 3 := hml0
  have hown : s.vm.findClass "java/lang/String" = some m.cls := findClass_of_methodNamed Bd.named
  have hnm := (name_of_methodNamed Bd.named Bd.method).1
  have X0 : Stand p l e ({ frames := 3, cells := 1, slots := 251, locals := 48 } : Room) s m #[(.ref ci), (.int (0 : Int32)), (.ref b)] below meth c s₁ [] 0 0 := Stand.of_body Bd
  have e0 : s₁.heap = h0 := by rw [← hh, Bd.state]; rfl
  have N0 := Fr.nil n0
  refine own_begin (own_enc_ef m ci cu b k z vs) ?_
  show Ends p.tables e below (s₁.setTop (mkF m 0 #[.val (.ref ci), .val (.int (0 : Int32)), .val (.ref b)] [])) _
  have Kr0 : Keep h0 h0 [] := Keep.refl h0 _
  refine s_aloadN (pc' := 1) X0.here hx (hb hby own_d7_0) rfl rfl rfl ?_
  refine s_getS (pc' := 4) X0 hx hZ hown (host := "") (Or.inl (hw _ (List.mem_of_getElem? (i := 40) rfl))) Via.refl e0 (S_u.ext O0.2) (hb hby own_d7_1) rfl fun T1 X1 e1 => ?_
  refine own_via (fun t_ k_ => Jvm.RoadKit.acmp (g := (mkF m 4 #[.val (.ref ci), .val (.int (0 : Int32)), .val (.ref b)] [(.ref cu), (.ref ci)])) X1 hx rfl rfl rfl (pc0 := 4) (pc' := 14) (same := false) rfl (hb hby own_d7_4) rfl (decide_eq_false fun q_ => ne_c (Value.ref.inj q_)) (by decide) (by decide) k_) ?_
  show Ends p.tables e below (T1.setTop (mkF m 14 #[.val (.ref ci), .val (.int (0 : Int32)), .val (.ref b)] [])) _
  refine s_aloadN (pc' := 15) X1.here hx (hb hby own_d7_14) rfl rfl rfl ?_
  refine s_getS (pc' := 18) X1 hx hZ hown (host := "") (Or.inl (hw _ (List.mem_of_getElem? (i := 42) rfl))) Via.refl e1 (S_i.ext O0.2) (hb hby own_d7_15) rfl fun T2 X2 e2 => ?_
  refine own_via (fun t_ k_ => Jvm.RoadKit.acmp (g := (mkF m 18 #[.val (.ref ci), .val (.int (0 : Int32)), .val (.ref b)] [(.ref ci), (.ref ci)])) X2 hx rfl rfl rfl (pc0 := 18) (pc' := 21) (same := true) rfl (hb hby own_d7_18) rfl (decide_eq_true (congrArg Value.ref rfl)) (by decide) (by decide) k_) ?_
  show Ends p.tables e below (T2.setTop (mkF m 21 #[.val (.ref ci), .val (.int (0 : Int32)), .val (.ref b)] [])) _
  refine s_iloadN (pc' := 22) X2.here hx (hb hby own_d7_21) rfl rfl ?_
  refine s_aloadN (pc' := 23) X2.here hx (hb hby own_d7_22) rfl rfl rfl ?_
  refine s_callS (pc' := 26) (W := 0) X2 hx hZ  hown (hw _ (List.mem_of_getElem? (i := 44) rfl)) (hw _ (List.mem_of_getElem? (i := 45) rfl)) (hw _ (List.mem_of_getElem? (i := 13) rfl)) (hw _ (List.mem_of_getElem? (i := 46) rfl)) (by decide) e2 (own_e2 l Z a0 hw [] b k z vs h0 n0 Z0 V_b E_b hz) (by rw [hml]; rfl) [(.int (0 : Int32)), (.ref b)] [] rfl (lenOf own_pd1 rfl) rfl (Nat.le_of_eq rfl) (by decide) (by decide) (by decide) (by decide) rfl (hb hby own_d7_23) fun T3 v3 Lc3 X3 hQ3 => ?_
  obtain ⟨b', rfl, Nq3, Kq3, szb, Vb⟩ := hQ3
  have O4 := O0.keep Kq3 all0
  have N3 := Fr.app N0 Nq3
  have Z5 : n0 ≤ T3.heap.size := Nat.le_trans Z0 Kq3.1
  have K6 : Keep h0 T3.heap [] := Kr0.trans Kq3 all0
  show Ends p.tables e below (T3.setTop (mkF m 26 #[.val (.ref ci), .val (.int (0 : Int32)), .val (.ref b)] [(.ref b')])) _
  obtain ⟨fs, hr, hrun, hended, hW, hsame⟩ := X3.leave (v := some (.ref b')) (fun h => by rw [Bd.returns] at h; cases h)
  refine ⟨_, _, retOut X3 hx Bd.returns rfl (Or.inr (Or.inr (Or.inr (Or.inr ⟨rfl, rfl, rfl⟩)))) (hb hby own_d7_26) hr, hrun, hended, _, _, rfl, ?_, ⟨_, rfl⟩, hW, hsame.mono (by decide) (by decide)⟩
  show own_enc_Q Z ci cu b k z vs h0 n0 _ T3.heap _
  exact ⟨b', rfl, N3, K6, szb, Vb⟩
theorem own_d5_0 : decode jdk_42_method_64_code 0 = .ok (.aload_n 1, 1) := by decide +kernel
theorem own_d5_1 : decode jdk_42_method_64_code 1 = .ok (.ifnonnull 11, 3) := by decide +kernel
theorem own_d5_12 : decode jdk_42_method_64_code 12 = .ok (.aload_n 1, 1) := by decide +kernel
theorem own_d5_13 : decode jdk_42_method_64_code 13 = .ok (.aload_n 0, 1) := by decide +kernel
theorem own_d5_14 : decode jdk_42_method_64_code 14 = .ok (.invokevirtual 335, 3) := by decide +kernel
theorem own_pd2 : parseMethodDescriptor "()B" = some ⟨[], some .byte⟩ := by decide +kernel
theorem own_d5_17 : decode jdk_42_method_64_code 17 = .ok (.aload_n 0, 1) := by decide +kernel
theorem own_d5_18 : decode jdk_42_method_64_code 18 = .ok (.getfield 9, 3) := by decide +kernel
theorem own_d5_21 : decode jdk_42_method_64_code 21 = .ok (.invokestatic 535, 3) := by decide +kernel
theorem own_pd3 : parseMethodDescriptor "(Ljava/nio/charset/Charset;B[B)[B" = some ⟨[(.object "java/nio/charset/Charset"), .byte, (.array .byte)], some (.array .byte)⟩ := by decide +kernel
theorem own_d5_24 : decode jdk_42_method_64_code 24 = .ok (.areturn, 1) := by decide +kernel
theorem own_gb_ef (m : MethodId) (a : Addr) (ci : Addr) (cu : Addr) (cs : Int32) (b : Addr) (k : ClassId) (z : Int32) (vs : List Value) : entryFrame m #[(.ref a), (.ref ci)] 2 = mkF m 0 #[.val (.ref a), .val (.ref ci)] [] := by first | (simp [entryFrame, mkF, argsToLocals, Value.category]; done) | rfl
def own_gb_Q (Z : State) (a : Addr) (ci : Addr) (cu : Addr) (cs : Int32) (b : Addr) (k : ClassId) (z : Int32) (vs : List Value) (h0 : Heap) (n0 : Nat) (v : Option Value) (h : Heap) (L : List Loc) : Prop := ∃ b', v = some (.ref b') ∧ Fr n0 L ∧ Keep h0 h [] ∧ h0.size ≤ b' ∧ Arv Z h b' k .byte z vs (.int (0 : Int32))
set_option maxRecDepth 65536 in
set_option maxHeartbeats 40000000 in
theorem own_gb (l : Launch) (Z : State) (a0 : Array Value) (hw : ∀ d ∈ tables_1, d.before a0 Z = true) (ws : List Jvm.Cond) (a : Addr) (ci : Addr) (cu : Addr) (cs : Int32) (b : Addr) (k : ClassId) (z : Int32) (vs : List Value) (h0 : Heap) (n0 : Nat) (Z0 : n0 ≤ h0.size) (O0 : Old Z n0 h0) (S_cs : Sta Z Z.heap "java/lang/String" "COMPACT_STRINGS" "Z" (.int cs)) (hcs : ¬ cs = (0 : Int32)) (S_i : Sta Z Z.heap "sun/nio/cs/ISO_8859_1" "INSTANCE" "Lsun/nio/cs/ISO_8859_1;" (.ref ci)) (S_u : Sta Z Z.heap "sun/nio/cs/UTF_8" "INSTANCE" "Lsun/nio/cs/UTF_8;" (.ref cu)) (ne_c : ¬ ci = cu) (E_a : Exa Z h0 a "java/lang/String") (F_c : Fld Z h0 a "java/lang/String" "coder" "B" (.int (0 : Int32))) (F_v : Fld Z h0 a "java/lang/String" "value" "[B" (.ref b)) (V_b : Arv Z h0 b k .byte z vs (.int (0 : Int32))) (E_b : Exa Z h0 b "[B") (hz : z.toNatClampNeg ≤ 251) :
    MetFree l (⟨"java/lang/String", "getBytes", "(Ljava/nio/charset/Charset;)[B"⟩ : MethodName) (head1 (Jvm.Cond.code (⟨"java/lang/String", "getBytes", "(Ljava/nio/charset/Charset;)[B"⟩ : MethodName) jdk_42_method_64_code 2 (some (.array .byte)) :: ws) ({ frames := 4, cells := 1, slots := 251, locals := 62 } : Room)) (fun as_ U => as_ = #[(.ref a), (.ref ci)] ∧ Z.Warmed39 U.vm ∧ U.heap = h0) (fun _ _ _ _ _ => True) (fun _ U_ o_ V_ => ∃ v_ L_, o_ = .returned v_ ∧ own_gb_Q Z a ci cu cs b k z vs h0 n0 v_ V_.heap L_ ∧ FrameEnd U_ o_ V_ L_ ({ frames := 4, cells := 1, slots := 251, locals := 62 } : Room).cells ({ frames := 4, cells := 1, slots := 251, locals := 62 } : Room).slots) := by
  refine MetFree.of_bodySF (plainFor_of_name own_pn2) hisR ?_
  intro p e s m args below meth c s₁ Bd hml0 hP hK
  obtain ⟨rfl, hZ, hh⟩ := hP
  have hx := Bd.exec
  have hby := Bd.bytes
  have hml : c.maxLocals = 2 := hml0
  have hown : s.vm.findClass "java/lang/String" = some m.cls := findClass_of_methodNamed Bd.named
  have hnm := (name_of_methodNamed Bd.named Bd.method).1
  have X0 : Stand p l e ({ frames := 4, cells := 1, slots := 251, locals := 62 } : Room) s m #[(.ref a), (.ref ci)] below meth c s₁ [] 0 0 := Stand.of_body Bd
  have e0 : s₁.heap = h0 := by rw [← hh, Bd.state]; rfl
  have N0 := Fr.nil n0
  refine own_begin (own_gb_ef m a ci cu cs b k z vs) ?_
  show Ends p.tables e below (s₁.setTop (mkF m 0 #[.val (.ref a), .val (.ref ci)] [])) _
  have Kr0 : Keep h0 h0 [] := Keep.refl h0 _
  refine s_aloadN (pc' := 1) X0.here hx (hb hby own_d5_0) rfl rfl rfl ?_
  refine s_ifnonnullYes (pc' := 12) X0.here hx (hb hby own_d5_1) (by decide) (by decide) ?_
  refine s_aloadN (pc' := 13) X0.here hx (hb hby own_d5_12) rfl rfl rfl ?_
  refine s_aloadN (pc' := 14) X0.here hx (hb hby own_d5_13) rfl rfl rfl ?_
  refine s_callV (pc' := 17) (W := 1) X0 hx hZ  hown (hw _ (List.mem_of_getElem? (i := 29) rfl)) (hw _ (List.mem_of_getElem? (i := 30) rfl)) (hw _ (List.mem_of_getElem? (i := 13) rfl)) (hw _ (List.mem_of_getElem? (i := 33) rfl)) (hw _ (List.mem_of_getElem? (i := 32) rfl)) (hw _ (List.mem_of_getElem? (i := 31) rfl)) (by decide) e0 E_a (own_rm6 l Z a0 hw [] a cs h0 n0 Z0 O0 S_cs hcs F_c) (by rw [hml]; rfl) [] [(.ref ci)] rfl (lenOf own_pd2 rfl) rfl (Nat.le_of_eq rfl) (by decide) (by decide) (by decide) (by decide) rfl (hb hby own_d5_14) fun T1 v1 Lc1 X1 hQ1 => ?_
  obtain ⟨rfl, Nq1, eh1⟩ := hQ1
  have N1 := Fr.app N0 Nq1
  show Ends p.tables e below (T1.setTop (mkF m 17 #[.val (.ref a), .val (.ref ci)] [(.int (0 : Int32)), (.ref ci)])) _
  refine s_aloadN (pc' := 18) X1.here hx (hb hby own_d5_17) rfl rfl rfl ?_
  refine s_getF (pc' := 21) X1 hx hZ hown (host := "") (Or.inl (hw _ (List.mem_of_getElem? (i := 36) rfl))) Via.refl eh1 F_v (hb hby own_d5_18) rfl fun T2 X2 e2 => ?_
  refine s_callS (pc' := 24) (W := 0) X2 hx hZ  hown (hw _ (List.mem_of_getElem? (i := 37) rfl)) (hw _ (List.mem_of_getElem? (i := 38) rfl)) (hw _ (List.mem_of_getElem? (i := 13) rfl)) (hw _ (List.mem_of_getElem? (i := 39) rfl)) (by decide) e2 (own_enc l Z a0 hw [] ci cu b k z vs h0 n0 Z0 O0 S_i S_u ne_c V_b E_b hz) (by rw [hml]; rfl) [(.ref ci), (.int (0 : Int32)), (.ref b)] [] rfl (lenOf own_pd3 rfl) rfl (Nat.le_of_eq rfl) (by decide) (by decide) (by decide) (by decide) rfl (hb hby own_d5_21) fun T3 v3 Lc3 X3 hQ3 => ?_
  obtain ⟨b', rfl, Nq3, Kq3, szb, Vb⟩ := hQ3
  have O4 := O0.keep Kq3 all0
  have N3 := Fr.app N1 Nq3
  have f5 := F_c.keep Kq3 nin0
  have f6 := F_v.keep Kq3 nin0
  have f7 := E_a.keep Kq3
  have Z8 : n0 ≤ T3.heap.size := Nat.le_trans Z0 Kq3.1
  have K9 : Keep h0 T3.heap [] := Kr0.trans Kq3 all0
  show Ends p.tables e below (T3.setTop (mkF m 24 #[.val (.ref a), .val (.ref ci)] [(.ref b')])) _
  obtain ⟨fs, hr, hrun, hended, hW, hsame⟩ := X3.leave (v := some (.ref b')) (fun h => by rw [Bd.returns] at h; cases h)
  refine ⟨_, _, retOut X3 hx Bd.returns rfl (Or.inr (Or.inr (Or.inr (Or.inr ⟨rfl, rfl, rfl⟩)))) (hb hby own_d5_24) hr, hrun, hended, _, _, rfl, ?_, ⟨_, rfl⟩, hW, hsame.mono (by decide) (by decide)⟩
  show own_gb_Q Z a ci cu cs b k z vs h0 n0 _ T3.heap _
  exact ⟨b', rfl, N3, K9, szb, Vb⟩
theorem own_d4_0 : decode prog_13_method_4_code 0 = .ok (.aload_n 0, 1) := by decide +kernel
theorem own_d4_1 : decode prog_13_method_4_code 1 = .ok (.getstatic 22, 3) := by decide +kernel
theorem own_d4_4 : decode prog_13_method_4_code 4 = .ok (.invokevirtual 31, 3) := by decide +kernel
theorem own_pd4 : parseMethodDescriptor "(Ljava/nio/charset/Charset;)[B" = some ⟨[(.object "java/nio/charset/Charset")], some (.array .byte)⟩ := by decide +kernel
theorem own_d4_7 : decode prog_13_method_4_code 7 = .ok (.areturn, 1) := by decide +kernel
theorem own_un_ef (m : MethodId) (a : Addr) (ci : Addr) (cu : Addr) (cs : Int32) (b : Addr) (k : ClassId) (z : Int32) (vs : List Value) : entryFrame m #[(.ref a)] 1 = mkF m 0 #[.val (.ref a)] [] := by first | (simp [entryFrame, mkF, argsToLocals, Value.category]; done) | rfl
def own_un_Q (Z : State) (a : Addr) (ci : Addr) (cu : Addr) (cs : Int32) (b : Addr) (k : ClassId) (z : Int32) (vs : List Value) (h0 : Heap) (n0 : Nat) (v : Option Value) (h : Heap) (L : List Loc) : Prop := ∃ b', v = some (.ref b') ∧ Fr n0 L ∧ Keep h0 h [] ∧ h0.size ≤ b' ∧ Arv Z h b' k .byte z vs (.int (0 : Int32))
set_option maxRecDepth 65536 in
set_option maxHeartbeats 40000000 in
theorem own_un (l : Launch) (Z : State) (a0 : Array Value) (hw : ∀ d ∈ tables_1, d.before a0 Z = true) (ws : List Jvm.Cond) (a : Addr) (ci : Addr) (cu : Addr) (cs : Int32) (b : Addr) (k : ClassId) (z : Int32) (vs : List Value) (h0 : Heap) (n0 : Nat) (Z0 : n0 ≤ h0.size) (O0 : Old Z n0 h0) (S_cs : Sta Z Z.heap "java/lang/String" "COMPACT_STRINGS" "Z" (.int cs)) (hcs : ¬ cs = (0 : Int32)) (S_i : Sta Z Z.heap "sun/nio/cs/ISO_8859_1" "INSTANCE" "Lsun/nio/cs/ISO_8859_1;" (.ref ci)) (S_u : Sta Z Z.heap "sun/nio/cs/UTF_8" "INSTANCE" "Lsun/nio/cs/UTF_8;" (.ref cu)) (S_s : Sta Z Z.heap "java/nio/charset/StandardCharsets" "ISO_8859_1" "Ljava/nio/charset/Charset;" (.ref ci)) (ne_c : ¬ ci = cu) (E_a : Exa Z h0 a "java/lang/String") (F_c : Fld Z h0 a "java/lang/String" "coder" "B" (.int (0 : Int32))) (F_v : Fld Z h0 a "java/lang/String" "value" "[B" (.ref b)) (V_b : Arv Z h0 b k .byte z vs (.int (0 : Int32))) (E_b : Exa Z h0 b "[B") (hz : z.toNatClampNeg ≤ 251) :
    MetFree l (⟨"tallykeep/engine/Keys", "unmapped", "(Ljava/lang/String;)[B"⟩ : MethodName) (head1 (Jvm.Cond.code (⟨"tallykeep/engine/Keys", "unmapped", "(Ljava/lang/String;)[B"⟩ : MethodName) prog_13_method_4_code 1 (some (.array .byte)) :: ws) ({ frames := 5, cells := 1, slots := 251, locals := 75 } : Room)) (fun as_ U => as_ = #[(.ref a)] ∧ Z.Warmed39 U.vm ∧ U.heap = h0) (fun _ _ _ _ _ => True) (fun _ U_ o_ V_ => ∃ v_ L_, o_ = .returned v_ ∧ own_un_Q Z a ci cu cs b k z vs h0 n0 v_ V_.heap L_ ∧ FrameEnd U_ o_ V_ L_ ({ frames := 5, cells := 1, slots := 251, locals := 75 } : Room).cells ({ frames := 5, cells := 1, slots := 251, locals := 75 } : Room).slots) := by
  refine MetFree.of_bodySF (plainFor_of_name own_pn0) hisR ?_
  intro p e s m args below meth c s₁ Bd hml0 hP hK
  obtain ⟨rfl, hZ, hh⟩ := hP
  have hx := Bd.exec
  have hby := Bd.bytes
  have hml : c.maxLocals = 1 := hml0
  have hown : s.vm.findClass "tallykeep/engine/Keys" = some m.cls := findClass_of_methodNamed Bd.named
  have hnm := (name_of_methodNamed Bd.named Bd.method).1
  have X0 : Stand p l e ({ frames := 5, cells := 1, slots := 251, locals := 75 } : Room) s m #[(.ref a)] below meth c s₁ [] 0 0 := Stand.of_body Bd
  have e0 : s₁.heap = h0 := by rw [← hh, Bd.state]; rfl
  have N0 := Fr.nil n0
  refine own_begin (own_un_ef m a ci cu cs b k z vs) ?_
  show Ends p.tables e below (s₁.setTop (mkF m 0 #[.val (.ref a)] [])) _
  have Kr0 : Keep h0 h0 [] := Keep.refl h0 _
  refine s_aloadN (pc' := 1) X0.here hx (hb hby own_d4_0) rfl rfl rfl ?_
  refine s_getS (pc' := 4) X0 hx hZ hown (host := "") (Or.inl (hw _ (List.mem_of_getElem? (i := 22) rfl))) Via.refl e0 (S_s.ext O0.2) (hb hby own_d4_1) rfl fun T1 X1 e1 => ?_
  refine s_callV (pc' := 7) (W := 0) X1 hx hZ  hown (hw _ (List.mem_of_getElem? (i := 24) rfl)) (hw _ (List.mem_of_getElem? (i := 25) rfl)) (hw _ (List.mem_of_getElem? (i := 13) rfl)) (hw _ (List.mem_of_getElem? (i := 28) rfl)) (hw _ (List.mem_of_getElem? (i := 27) rfl)) (hw _ (List.mem_of_getElem? (i := 26) rfl)) (by decide) e1 E_a (own_gb l Z a0 hw [] a ci cu cs b k z vs h0 n0 Z0 O0 S_cs hcs S_i S_u ne_c E_a F_c F_v V_b E_b hz) (by rw [hml]; rfl) [(.ref ci)] [] rfl (lenOf own_pd4 rfl) rfl (Nat.le_of_eq rfl) (by decide) (by decide) (by decide) (by decide) rfl (hb hby own_d4_4) fun T2 v2 Lc2 X2 hQ2 => ?_
  obtain ⟨b', rfl, Nq2, Kq2, szb, Vb⟩ := hQ2
  have O3 := O0.keep Kq2 all0
  have N2 := Fr.app N0 Nq2
  have f4 := E_a.keep Kq2
  have Z5 : n0 ≤ T2.heap.size := Nat.le_trans Z0 Kq2.1
  have K6 : Keep h0 T2.heap [] := Kr0.trans Kq2 all0
  show Ends p.tables e below (T2.setTop (mkF m 7 #[.val (.ref a)] [(.ref b')])) _
  obtain ⟨fs, hr, hrun, hended, hW, hsame⟩ := X2.leave (v := some (.ref b')) (fun h => by rw [Bd.returns] at h; cases h)
  refine ⟨_, _, retOut X2 hx Bd.returns rfl (Or.inr (Or.inr (Or.inr (Or.inr ⟨rfl, rfl, rfl⟩)))) (hb hby own_d4_7) hr, hrun, hended, _, _, rfl, ?_, ⟨_, rfl⟩, hW, hsame.mono (by decide) (by decide)⟩
  show own_un_Q Z a ci cu cs b k z vs h0 n0 _ T2.heap _
  exact ⟨b', rfl, N2, K6, szb, Vb⟩
theorem own_d3_0 : decode method_3_code 0 = .ok (.iload_n 0, 1) := by decide +kernel
theorem own_d3_1 : decode method_3_code 1 = .ok (.ifCond .eq 9, 3) := by decide +kernel
theorem own_d3_10 : decode method_3_code 10 = .ok (.ldc 15, 2) := by decide +kernel
theorem own_d3_12 : decode method_3_code 12 = .ok (.invokestatic 9, 3) := by decide +kernel
theorem own_pd5 : parseMethodDescriptor "(Ljava/lang/String;)[B" = some ⟨[(.object "java/lang/String")], some (.array .byte)⟩ := by decide +kernel
theorem own_d3_15 : decode method_3_code 15 = .ok (.areturn, 1) := by decide +kernel
theorem own_dig0_ef (m : MethodId) (ci : Addr) (cu : Addr) (cs : Int32) : entryFrame m #[(.int (0 : Int32))] 1 = mkF m 0 #[.val (.int (0 : Int32))] [] := by first | (simp [entryFrame, mkF, argsToLocals, Value.category]; done) | rfl
def own_dig0_Q (Z : State) (ci : Addr) (cu : Addr) (cs : Int32) (h0 : Heap) (n0 : Nat) (v : Option Value) (h : Heap) (L : List Loc) : Prop := ∃ b' kb, v = some (.ref b') ∧ Fr n0 L ∧ Keep h0 h [] ∧ h0.size ≤ b' ∧ Arv Z h b' kb .byte (250 : Int32) own_L0 (.int (0 : Int32))
set_option maxRecDepth 65536 in
set_option maxHeartbeats 40000000 in
theorem own_dig0 (l : Launch) (Z : State) (a0 : Array Value) (hw : ∀ d ∈ tables_1, d.before a0 Z = true) (ws : List Jvm.Cond) (ci : Addr) (cu : Addr) (cs : Int32) (h0 : Heap) (n0 : Nat) (Z0 : n0 ≤ h0.size) (O0 : Old Z n0 h0) (S_cs : Sta Z Z.heap "java/lang/String" "COMPACT_STRINGS" "Z" (.int cs)) (hcs : ¬ cs = (0 : Int32)) (S_i : Sta Z Z.heap "sun/nio/cs/ISO_8859_1" "INSTANCE" "Lsun/nio/cs/ISO_8859_1;" (.ref ci)) (S_u : Sta Z Z.heap "sun/nio/cs/UTF_8" "INSTANCE" "Lsun/nio/cs/UTF_8;" (.ref cu)) (S_s : Sta Z Z.heap "java/nio/charset/StandardCharsets" "ISO_8859_1" "Ljava/nio/charset/Charset;" (.ref ci)) (ne_c : ¬ ci = cu) :
    MetFree l (⟨"tallykeep/engine/KeysIsValidPinLaw", "digits", "(Z)[B"⟩ : MethodName) (head1 (Jvm.Cond.code (⟨"tallykeep/engine/KeysIsValidPinLaw", "digits", "(Z)[B"⟩ : MethodName) method_3_code 1 (some (.array .byte)) :: ws) ({ frames := 6, cells := 3, slots := 1255, locals := 87 } : Room)) (fun as_ U => as_ = #[(.int (0 : Int32))] ∧ Z.Warmed39 U.vm ∧ U.heap = h0 ∧ CHv Z consts_1 U.vm h0 ∧ ∀ x_ ∈ ([] : List Addr), Safe Z consts_1 U.vm h0 x_) (fun _ _ _ _ _ => True) (fun _ U_ o_ V_ => ∃ v_ L_, o_ = .returned v_ ∧ own_dig0_Q Z ci cu cs h0 n0 v_ V_.heap L_ ∧ CHr Z consts_1 U_.vm U_.heap V_.vm V_.heap ∧ ReturnedEndW U_ o_ V_ L_ ({ frames := 6, cells := 3, slots := 1255, locals := 87 } : Room).cells ({ frames := 6, cells := 3, slots := 1255, locals := 87 } : Room).slots) := by
  refine MetFree.of_bodySF (plainFor_of_name own_pn1) hisR ?_
  intro p e s m args below meth c s₁ Bd hml0 hP hK
  obtain ⟨rfl, hZ, hh, HC0, hsf0⟩ := hP
  have hx := Bd.exec
  have hby := Bd.bytes
  have hml : c.maxLocals = 1 := hml0
  have hown : s.vm.findClass "tallykeep/engine/KeysIsValidPinLaw" = some m.cls := findClass_of_methodNamed Bd.named
  have hnm := (name_of_methodNamed Bd.named Bd.method).1
  have X0 : Stand p l e ({ frames := 6, cells := 3, slots := 1255, locals := 87 } : Room) s m #[(.int (0 : Int32))] below meth c s₁ [] 0 0 := Stand.of_body Bd
  have e0 : s₁.heap = h0 := by rw [← hh, Bd.state]; rfl
  have N0 := Fr.nil n0
  refine own_begin (own_dig0_ef m ci cu cs) ?_
  show Ends p.tables e below (s₁.setTop (mkF m 0 #[.val (.int (0 : Int32))] [])) _
  have Kr0 : Keep h0 h0 [] := Keep.refl h0 _
  have HR0 : CHr Z consts_1 s.vm h0 s.vm h0 := CHr.refl HC0
  have X0w : Stand p l e ({ frames := 6, cells := 3, slots := 1255, locals := 87 } : Room) (s.setVm s.vm) m #[(.int (0 : Int32))] below meth c s₁ [] 0 0 := X0
  have hS : s.Since s.vm 0 := (State.WarmedH.refl s).since 0
  have hk : 0 ≤ h0.size := Nat.zero_le _
  refine s_iloadN (pc' := 1) X0w.here hx (hb hby own_d3_0) rfl rfl ?_
  have hk1 : (0 : Int32) = (0 : Int32) := rfl
  refine s_ifYes (pc' := 10) X0w.here hx (hb hby own_d3_1) ((if0 _ _).trans (teq hk1).1) (by decide) (by decide) ?_
  refine s_ldcCH (pc' := 12) (n := 1000) (z := (250 : Int32)) (vs := own_L0) X0w hx hZ hS hk (own_EW hw) HC0 hown (hw _ (List.mem_of_getElem? (i := 60) rfl)) (own_wS hw) e0 (List.mem_of_getElem? (i := 1) rfl) ⟨by decide +kernel, by decide +kernel⟩ (by decide) (by decide +kernel) (hb hby own_d3_10) (by decide) (by decide) (by decide) (by decide) rfl fun la lb kb2 T2 hp2 kx2 X2 e2 E2 hS hk' hZ hown hr2 Ex2 Fc2 Fv2 Vb2 hne2 => ?_
  have HR3 := CHr.trans HR0 (hr2)
  have HC4 := hr2.1
  have O5 := O0.ext E2
  have Z6 : n0 ≤ hp2.size := Nat.le_trans Z0 E2.1
  have K7 : Keep h0 hp2 [] := Kr0.ext E2
  replace hk := hk'
  have Elb := own_litB hZ.alike Vb2 (fun S_ => (hne2 _ S_).2 rfl)
  refine s_callS (pc' := 15) (W := 0) X2 hx hZ  hown (hw _ (List.mem_of_getElem? (i := 19) rfl)) (hw _ (List.mem_of_getElem? (i := 20) rfl)) (hw _ (List.mem_of_getElem? (i := 3) rfl)) (hw _ (List.mem_of_getElem? (i := 21) rfl)) (by decide) e2 (own_un l Z a0 hw [] la ci cu cs lb kb2 (250 : Int32) own_L0 hp2 n0 Z6 O5 S_cs hcs S_i S_u S_s ne_c Ex2 Fc2 Fv2 Vb2 Elb (by decide)) (by rw [hml]; rfl) [(.ref la)] [] rfl (lenOf own_pd5 rfl) rfl (Nat.le_of_eq rfl) (by decide) (by decide) (by decide) (by decide) rfl (hb hby own_d3_12) fun T8 v8 Lc8 X8 hQ8 => ?_
  obtain ⟨b', rfl, Nq8, Kq8, szb, Vb_⟩ := hQ8
  have HR9 := CHr.trans HR3 (CHr.keep Kq8 sf0 HC4)
  have HC10 := CHv.keep Kq8 sf0 HC4
  have O11 := O5.keep Kq8 all0
  have N8 := Fr.app N0 Nq8
  have f12 := Ex2.keep Kq8
  have f13 := Fc2.keep Kq8 nin0
  have f14 := Fv2.keep Kq8 nin0
  have f15 := Vb2.keep Kq8 nin0
  have Z16 : n0 ≤ T8.heap.size := Nat.le_trans Z6 Kq8.1
  replace hk := Nat.le_trans hk Kq8.1
  have K17 : Keep h0 T8.heap [] := K7.trans Kq8 all0
  show Ends p.tables e below (T8.setTop (mkF m 15 #[.val (.int (0 : Int32))] [(.ref b')])) _
  skip
  obtain ⟨fs, hr, hrun, hended, hRW⟩ := X8.leaveW hS (show _ ≤ T8.heap.size from hk) (v := some (.ref b')) (fun h => by rw [Bd.returns] at h; cases h)
  have hfin : CHr Z consts_1 s.vm s.heap T8.vm T8.heap := by rw [hh]; exact CHr.trans HR9 (CHv.at X8 hZ (own_EW hw) HC10)
  refine ⟨_, _, retOut X8 hx Bd.returns rfl (Or.inr (Or.inr (Or.inr (Or.inr ⟨rfl, rfl, rfl⟩)))) (hb hby own_d3_15) hr, hrun, hended, _, _, rfl, ?_, hfin, own_rwm hRW (by decide) (by decide)⟩
  show own_dig0_Q Z ci cu cs h0 n0 _ T8.heap _
  exact ⟨b', kb2, rfl, N8, K17, Nat.le_trans E2.1 szb, Vb_⟩
theorem own_d3_4 : decode method_3_code 4 = .ok (.ldc 7, 2) := by decide +kernel
theorem own_d3_6 : decode method_3_code 6 = .ok (.invokestatic 9, 3) := by decide +kernel
theorem own_d3_9 : decode method_3_code 9 = .ok (.areturn, 1) := by decide +kernel
theorem own_dig1_ef (m : MethodId) (ci : Addr) (cu : Addr) (cs : Int32) : entryFrame m #[(.int (1 : Int32))] 1 = mkF m 0 #[.val (.int (1 : Int32))] [] := by first | (simp [entryFrame, mkF, argsToLocals, Value.category]; done) | rfl
def own_dig1_Q (Z : State) (ci : Addr) (cu : Addr) (cs : Int32) (h0 : Heap) (n0 : Nat) (v : Option Value) (h : Heap) (L : List Loc) : Prop := ∃ b' kb, v = some (.ref b') ∧ Fr n0 L ∧ Keep h0 h [] ∧ h0.size ≤ b' ∧ Arv Z h b' kb .byte (251 : Int32) own_L1 (.int (0 : Int32))
set_option maxRecDepth 65536 in
set_option maxHeartbeats 40000000 in
theorem own_dig1 (l : Launch) (Z : State) (a0 : Array Value) (hw : ∀ d ∈ tables_1, d.before a0 Z = true) (ws : List Jvm.Cond) (ci : Addr) (cu : Addr) (cs : Int32) (h0 : Heap) (n0 : Nat) (Z0 : n0 ≤ h0.size) (O0 : Old Z n0 h0) (S_cs : Sta Z Z.heap "java/lang/String" "COMPACT_STRINGS" "Z" (.int cs)) (hcs : ¬ cs = (0 : Int32)) (S_i : Sta Z Z.heap "sun/nio/cs/ISO_8859_1" "INSTANCE" "Lsun/nio/cs/ISO_8859_1;" (.ref ci)) (S_u : Sta Z Z.heap "sun/nio/cs/UTF_8" "INSTANCE" "Lsun/nio/cs/UTF_8;" (.ref cu)) (S_s : Sta Z Z.heap "java/nio/charset/StandardCharsets" "ISO_8859_1" "Ljava/nio/charset/Charset;" (.ref ci)) (ne_c : ¬ ci = cu) :
    MetFree l (⟨"tallykeep/engine/KeysIsValidPinLaw", "digits", "(Z)[B"⟩ : MethodName) (head1 (Jvm.Cond.code (⟨"tallykeep/engine/KeysIsValidPinLaw", "digits", "(Z)[B"⟩ : MethodName) method_3_code 1 (some (.array .byte)) :: ws) ({ frames := 6, cells := 3, slots := 1259, locals := 87 } : Room)) (fun as_ U => as_ = #[(.int (1 : Int32))] ∧ Z.Warmed39 U.vm ∧ U.heap = h0 ∧ CHv Z consts_1 U.vm h0 ∧ ∀ x_ ∈ ([] : List Addr), Safe Z consts_1 U.vm h0 x_) (fun _ _ _ _ _ => True) (fun _ U_ o_ V_ => ∃ v_ L_, o_ = .returned v_ ∧ own_dig1_Q Z ci cu cs h0 n0 v_ V_.heap L_ ∧ CHr Z consts_1 U_.vm U_.heap V_.vm V_.heap ∧ ReturnedEndW U_ o_ V_ L_ ({ frames := 6, cells := 3, slots := 1259, locals := 87 } : Room).cells ({ frames := 6, cells := 3, slots := 1259, locals := 87 } : Room).slots) := by
  refine MetFree.of_bodySF (plainFor_of_name own_pn1) hisR ?_
  intro p e s m args below meth c s₁ Bd hml0 hP hK
  obtain ⟨rfl, hZ, hh, HC0, hsf0⟩ := hP
  have hx := Bd.exec
  have hby := Bd.bytes
  have hml : c.maxLocals = 1 := hml0
  have hown : s.vm.findClass "tallykeep/engine/KeysIsValidPinLaw" = some m.cls := findClass_of_methodNamed Bd.named
  have hnm := (name_of_methodNamed Bd.named Bd.method).1
  have X0 : Stand p l e ({ frames := 6, cells := 3, slots := 1259, locals := 87 } : Room) s m #[(.int (1 : Int32))] below meth c s₁ [] 0 0 := Stand.of_body Bd
  have e0 : s₁.heap = h0 := by rw [← hh, Bd.state]; rfl
  have N0 := Fr.nil n0
  refine own_begin (own_dig1_ef m ci cu cs) ?_
  show Ends p.tables e below (s₁.setTop (mkF m 0 #[.val (.int (1 : Int32))] [])) _
  have Kr0 : Keep h0 h0 [] := Keep.refl h0 _
  have HR0 : CHr Z consts_1 s.vm h0 s.vm h0 := CHr.refl HC0
  have X0w : Stand p l e ({ frames := 6, cells := 3, slots := 1259, locals := 87 } : Room) (s.setVm s.vm) m #[(.int (1 : Int32))] below meth c s₁ [] 0 0 := X0
  have hS : s.Since s.vm 0 := (State.WarmedH.refl s).since 0
  have hk : 0 ≤ h0.size := Nat.zero_le _
  refine s_iloadN (pc' := 1) X0w.here hx (hb hby own_d3_0) rfl rfl ?_
  have hk1 : ¬ ((1 : Int32) = (0 : Int32)) := by decide
  refine s_ifNo (pc' := 4) X0w.here hx (hb hby own_d3_1) ((if0 _ _).trans (feq hk1).1) rfl ?_
  refine s_ldcCH (pc' := 6) (n := 1004) (z := (251 : Int32)) (vs := own_L1) X0w hx hZ hS hk (own_EW hw) HC0 hown (hw _ (List.mem_of_getElem? (i := 12) rfl)) (own_wS hw) e0 (List.mem_of_getElem? (i := 0) rfl) ⟨by decide +kernel, by decide +kernel⟩ (by decide) (by decide +kernel) (hb hby own_d3_4) (by decide) (by decide) (by decide) (by decide) rfl fun la lb kb2 T2 hp2 kx2 X2 e2 E2 hS hk' hZ hown hr2 Ex2 Fc2 Fv2 Vb2 hne2 => ?_
  have HR3 := CHr.trans HR0 (hr2)
  have HC4 := hr2.1
  have O5 := O0.ext E2
  have Z6 : n0 ≤ hp2.size := Nat.le_trans Z0 E2.1
  have K7 : Keep h0 hp2 [] := Kr0.ext E2
  replace hk := hk'
  have Elb := own_litB hZ.alike Vb2 (fun S_ => (hne2 _ S_).2 rfl)
  refine s_callS (pc' := 9) (W := 0) X2 hx hZ  hown (hw _ (List.mem_of_getElem? (i := 19) rfl)) (hw _ (List.mem_of_getElem? (i := 20) rfl)) (hw _ (List.mem_of_getElem? (i := 3) rfl)) (hw _ (List.mem_of_getElem? (i := 21) rfl)) (by decide) e2 (own_un l Z a0 hw [] la ci cu cs lb kb2 (251 : Int32) own_L1 hp2 n0 Z6 O5 S_cs hcs S_i S_u S_s ne_c Ex2 Fc2 Fv2 Vb2 Elb (by decide)) (by rw [hml]; rfl) [(.ref la)] [] rfl (lenOf own_pd5 rfl) rfl (Nat.le_of_eq rfl) (by decide) (by decide) (by decide) (by decide) rfl (hb hby own_d3_6) fun T8 v8 Lc8 X8 hQ8 => ?_
  obtain ⟨b', rfl, Nq8, Kq8, szb, Vb_⟩ := hQ8
  have HR9 := CHr.trans HR3 (CHr.keep Kq8 sf0 HC4)
  have HC10 := CHv.keep Kq8 sf0 HC4
  have O11 := O5.keep Kq8 all0
  have N8 := Fr.app N0 Nq8
  have f12 := Ex2.keep Kq8
  have f13 := Fc2.keep Kq8 nin0
  have f14 := Fv2.keep Kq8 nin0
  have f15 := Vb2.keep Kq8 nin0
  have Z16 : n0 ≤ T8.heap.size := Nat.le_trans Z6 Kq8.1
  replace hk := Nat.le_trans hk Kq8.1
  have K17 : Keep h0 T8.heap [] := K7.trans Kq8 all0
  show Ends p.tables e below (T8.setTop (mkF m 9 #[.val (.int (1 : Int32))] [(.ref b')])) _
  skip
  obtain ⟨fs, hr, hrun, hended, hRW⟩ := X8.leaveW hS (show _ ≤ T8.heap.size from hk) (v := some (.ref b')) (fun h => by rw [Bd.returns] at h; cases h)
  have hfin : CHr Z consts_1 s.vm s.heap T8.vm T8.heap := by rw [hh]; exact CHr.trans HR9 (CHv.at X8 hZ (own_EW hw) HC10)
  refine ⟨_, _, retOut X8 hx Bd.returns rfl (Or.inr (Or.inr (Or.inr (Or.inr ⟨rfl, rfl, rfl⟩)))) (hb hby own_d3_9) hr, hrun, hended, _, _, rfl, ?_, hfin, own_rwm hRW (by decide) (by decide)⟩
  show own_dig1_Q Z ci cu cs h0 n0 _ T8.heap _
  exact ⟨b', kb2, rfl, N8, K17, Nat.le_trans E2.1 szb, Vb_⟩
theorem own_pd6 : parseMethodDescriptor "(Z)[B" = some ⟨[.boolean], some (.array .byte)⟩ := by decide +kernel
theorem own_pd7 : parseMethodDescriptor "(I)Z" = some ⟨[.int], some .boolean⟩ := by decide +kernel
theorem own_pd8 : parseMethodDescriptor "([B)Z" = some ⟨[(.array .byte)], some .boolean⟩ := by decide +kernel
theorem own_rm0_ef (m : MethodId) (p0 : Int32) (p1 : Int32) (p2 : Int32) (p3 : Int32) (p4 : Int32) (ci : Addr) (cu : Addr) (cs : Int32) : entryFrame m #[(.int p0), (.int p1), (.int p2), (.int p3), (.int p4)] maxLocals = mkF m 0 #[.val (.int p0), .val (.int p1), .val (.int p2), .val (.int p3), .val (.int p4), .unset, .unset, .unset, .unset, .unset, .unset, .unset, .unset, .unset] [] := by first | (simp [entryFrame, mkF, argsToLocals, Value.category, maxLocals]; done) | rfl
def own_rm0_Q (Z : State) (p0 : Int32) (p1 : Int32) (p2 : Int32) (p3 : Int32) (p4 : Int32) (ci : Addr) (cu : Addr) (cs : Int32) (h0 : Heap) (n0 : Nat) (v : Option Value) (h : Heap) (L : List Loc) : Prop := v = some (.int 1) ∧ Fr n0 L
set_option maxRecDepth 65536 in
set_option maxHeartbeats 40000000 in
theorem own_rm0 (l : Launch) (Z : State) (a0 : Array Value) (hw : ∀ d ∈ tables_1, d.before a0 Z = true) (ws : List Jvm.Cond) (p0 : Int32) (p1 : Int32) (p2 : Int32) (p3 : Int32) (p4 : Int32) (ci : Addr) (cu : Addr) (cs : Int32) (h0 : Heap) (n0 : Nat) (Z0 : n0 ≤ h0.size) (O0 : Old Z n0 h0) (S_cs : Sta Z Z.heap "java/lang/String" "COMPACT_STRINGS" "Z" (.int cs)) (hcs : ¬ cs = (0 : Int32)) (S_i : Sta Z Z.heap "sun/nio/cs/ISO_8859_1" "INSTANCE" "Lsun/nio/cs/ISO_8859_1;" (.ref ci)) (S_u : Sta Z Z.heap "sun/nio/cs/UTF_8" "INSTANCE" "Lsun/nio/cs/UTF_8;" (.ref cu)) (S_s : Sta Z Z.heap "java/nio/charset/StandardCharsets" "ISO_8859_1" "Ljava/nio/charset/Charset;" (.ref ci)) (ne_c : ¬ ci = cu) :
    MetFree l x (head1 (Jvm.Cond.code x code maxLocals ret :: ws) room_1) (fun as_ U => as_ = #[(.int p0), (.int p1), (.int p2), (.int p3), (.int p4)] ∧ Z.Warmed39 U.vm ∧ U.heap = h0 ∧ CHv Z consts_1 U.vm h0 ∧ ∀ x_ ∈ ([] : List Addr), Safe Z consts_1 U.vm h0 x_) (fun _ _ _ _ _ => True) (fun _ U_ o_ V_ => ∃ v_ L_, o_ = .returned v_ ∧ own_rm0_Q Z p0 p1 p2 p3 p4 ci cu cs h0 n0 v_ V_.heap L_ ∧ ReturnedEndW U_ o_ V_ L_ room_1.cells room_1.slots) := by
  refine MetFree.of_bodySF (plainFor_of_name own_pn1) hisR ?_
  intro p e s m args below meth c s₁ Bd hml0 hP hK
  obtain ⟨rfl, hZ, hh, HC0, hsf0⟩ := hP
  have hx := Bd.exec
  have hby := Bd.bytes
  have hml : c.maxLocals = 14 := hml0
  have hown : s.vm.findClass "tallykeep/engine/KeysIsValidPinLaw" = some m.cls := findClass_of_methodNamed Bd.named
  have hnm := (name_of_methodNamed Bd.named Bd.method).1
  have X0 : Stand p l e room_1 s m #[(.int p0), (.int p1), (.int p2), (.int p3), (.int p4)] below meth c s₁ [] 0 0 := Stand.of_body Bd
  have e0 : s₁.heap = h0 := by rw [← hh, Bd.state]; rfl
  have N0 := Fr.nil n0
  refine own_begin (own_rm0_ef m p0 p1 p2 p3 p4 ci cu cs) ?_
  show Ends p.tables e below (s₁.setTop (mkF m 0 #[.val (.int p0), .val (.int p1), .val (.int p2), .val (.int p3), .val (.int p4), .unset, .unset, .unset, .unset, .unset, .unset, .unset, .unset, .unset] [])) _
  have HR0 : CHr Z consts_1 s.vm h0 s.vm h0 := CHr.refl HC0
  have X0w : Stand p l e room_1 (s.setVm s.vm) m #[(.int p0), (.int p1), (.int p2), (.int p3), (.int p4)] below meth c s₁ [] 0 0 := X0
  have hS : s.Since s.vm 0 := (State.WarmedH.refl s).since 0
  have hk : 0 ≤ h0.size := Nat.zero_le _
  refine s_iloadN (pc' := 1) X0w.here hx (hb hby at_0) rfl rfl ?_
  refine s_iconst (pc' := 2) X0w.here hx (v := (3 : Int32)) (hb hby at_1) rfl rfl ?_
  refine s_iand (pc' := 3) X0w.here hx (hb hby at_2) rfl ?_
  refine s_istore (pc' := 5) X0w.here hx (l' := #[.val (.int p0), .val (.int p1), .val (.int p2), .val (.int p3), .val (.int p4), .val (.int (p0 &&& (3 : Int32))), .unset, .unset, .unset, .unset, .unset, .unset, .unset, .unset]) (hb hby at_3) rfl rfl ?_
  refine s_iloadN (pc' := 6) X0w.here hx (hb hby at_5) rfl rfl ?_
  refine s_iconst (pc' := 7) X0w.here hx (v := (2 : Int32)) (hb hby at_6) rfl rfl ?_
  refine s_iushr (pc' := 8) X0w.here hx (hb hby at_7) rfl ?_
  refine s_istore (pc' := 10) X0w.here hx (l' := #[.val (.int p0), .val (.int p1), .val (.int p2), .val (.int p3), .val (.int p4), .val (.int (p0 &&& (3 : Int32))), .val (.int ((p0.toUInt32 >>> ((2 : Int32) &&& 31).toUInt32).toInt32)), .unset, .unset, .unset, .unset, .unset, .unset, .unset]) (hb hby at_8) rfl rfl ?_
  obtain ⟨m5, hm5⟩ : ∃ z : Int32, z = (p0 &&& (3 : Int32)) := ⟨_, rfl⟩
  rw [← hm5]
  obtain ⟨n6, hn6⟩ : ∃ z : Int32, z = ((p0.toUInt32 >>> ((2 : Int32) &&& 31).toUInt32).toInt32) := ⟨_, rfl⟩
  rw [← hn6]
  refine s_iload (pc' := 12) X0w.here hx (hb hby at_10) rfl rfl ?_
  refine s_iconst (pc' := 13) X0w.here hx (v := (1 : Int32)) (hb hby at_12) rfl rfl ?_
  by_cases hm1 : m5 = (1 : Int32)
  · refine s_icmpNo (pc' := 16) X0w.here hx (hb hby at_13) (teq hm1).2 rfl ?_
    refine s_iload (pc' := 18) X0w.here hx (hb hby at_16) rfl rfl ?_
    refine s_iconst (pc' := 19) X0w.here hx (v := (1 : Int32)) (hb hby at_18) rfl rfl ?_
    refine s_iand (pc' := 20) X0w.here hx (hb hby at_19) rfl ?_
    by_cases hf : (n6 &&& (1 : Int32)) = (0 : Int32)
    · refine s_ifYes (pc' := 27) X0w.here hx (hb hby at_20) ((if0 _ _).trans (teq hf).1) (by decide) (by decide) ?_
      refine s_iconst (pc' := 28) X0w.here hx (v := (0 : Int32)) (hb hby at_27) rfl rfl ?_
      refine s_istore (pc' := 30) X0w.here hx (l' := #[.val (.int p0), .val (.int p1), .val (.int p2), .val (.int p3), .val (.int p4), .val (.int m5), .val (.int n6), .val (.int (0 : Int32)), .unset, .unset, .unset, .unset, .unset, .unset]) (hb hby at_28) rfl rfl ?_
      refine s_iload (pc' := 32) X0w.here hx (hb hby at_30) rfl rfl ?_
      refine s_callSH (pc' := 35) (W := 0) X0w hx hZ hS hk (own_EW hw) HC0  hown (hw _ (List.mem_of_getElem? (i := 9) rfl)) (hw _ (List.mem_of_getElem? (i := 10) rfl)) (hw _ (List.mem_of_getElem? (i := 7) rfl)) (hw _ (List.mem_of_getElem? (i := 11) rfl)) (by decide) e0 (own_dig0 l Z a0 hw [] ci cu cs h0 n0 Z0 O0 S_cs hcs S_i S_u S_s ne_c) own_safe0 (by rw [hml]; rfl) [(.int (0 : Int32))] [] rfl (lenOf own_pd6 rfl) rfl (Nat.le_of_eq rfl) (by decide) (by decide) (by decide) (by decide) rfl (hb hby at_32) fun T1 v1 Lc1 X1 hS hZ hown hr1 hQ1 => ?_
      obtain ⟨ba, kb, rfl, Nq1, Kq1, szb, Vb⟩ := hQ1
      have g_ba : n0 ≤ ba := Nat.le_trans Z0 szb
      have HR2 := CHr.trans HR0 (hr1)
      have HC3 := hr1.1
      have O4 := O0.keep Kq1 all0
      have N1 := Fr.app N0 Nq1
      have hk : T1.heap.size ≤ T1.heap.size := Nat.le_refl _
      have Z5 : n0 ≤ T1.heap.size := Nat.le_trans Z0 Kq1.1
      show Ends p.tables e below (T1.setTop (mkF m 35 #[.val (.int p0), .val (.int p1), .val (.int p2), .val (.int p3), .val (.int p4), .val (.int m5), .val (.int n6), .val (.int (0 : Int32)), .unset, .unset, .unset, .unset, .unset, .unset] [(.ref ba)])) _
      refine s_astore (pc' := 37) X1.here hx (l' := #[.val (.int p0), .val (.int p1), .val (.int p2), .val (.int p3), .val (.int p4), .val (.int m5), .val (.int n6), .val (.int (0 : Int32)), .val (.ref ba), .unset, .unset, .unset, .unset, .unset]) (hb hby at_35) rfl rfl rfl ?_
      refine s_aload (pc' := 39) X1.here hx (hb hby at_37) rfl rfl rfl ?_
      refine s_arraylength (pc' := 40) X1 hx hZ rfl Vb (hb hby at_39) rfl ?_
      refine s_istore (pc' := 42) X1.here hx (l' := #[.val (.int p0), .val (.int p1), .val (.int p2), .val (.int p3), .val (.int p4), .val (.int m5), .val (.int n6), .val (.int (0 : Int32)), .val (.ref ba), .val (.int (250 : Int32)), .unset, .unset, .unset, .unset]) (hb hby at_40) rfl rfl ?_
      refine s_iloadN (pc' := 43) X1.here hx (hb hby at_42) rfl rfl ?_
      refine s_ldcI (pc' := 45) X1 hx hZ hown (hw _ (List.mem_of_getElem? (i := 59) rfl)) (hb hby at_43) rfl ?_
      refine s_iand (pc' := 46) X1.here hx (hb hby at_45) rfl ?_
      refine s_iload (pc' := 48) X1.here hx (hb hby at_46) rfl rfl ?_
      refine s_irem (pc' := 49) X1 hx (hb hby at_48) (by decide) rfl ?_
      refine s_istore (pc' := 51) X1.here hx (l' := #[.val (.int p0), .val (.int p1), .val (.int p2), .val (.int p3), .val (.int p4), .val (.int m5), .val (.int n6), .val (.int (0 : Int32)), .val (.ref ba), .val (.int (250 : Int32)), .val (.int ((p3 &&& (2147483647 : Int32)) % (250 : Int32))), .unset, .unset, .unset]) (hb hby at_49) rfl rfl ?_
      refine s_iload (pc' := 53) X1.here hx (hb hby at_51) rfl rfl ?_
      refine s_ldcI (pc' := 55) X1 hx hZ hown (hw _ (List.mem_of_getElem? (i := 59) rfl)) (hb hby at_53) rfl ?_
      refine s_iand (pc' := 56) X1.here hx (hb hby at_55) rfl ?_
      refine s_iload (pc' := 58) X1.here hx (hb hby at_56) rfl rfl ?_
      refine s_irem (pc' := 59) X1 hx (hb hby at_58) (by decide) rfl ?_
      refine s_istore (pc' := 61) X1.here hx (l' := #[.val (.int p0), .val (.int p1), .val (.int p2), .val (.int p3), .val (.int p4), .val (.int m5), .val (.int n6), .val (.int (0 : Int32)), .val (.ref ba), .val (.int (250 : Int32)), .val (.int ((p3 &&& (2147483647 : Int32)) % (250 : Int32))), .val (.int ((p4 &&& (2147483647 : Int32)) % (250 : Int32))), .unset, .unset]) (hb hby at_59) rfl rfl ?_
      obtain ⟨ii, hii⟩ : ∃ z : Int32, z = ((p3 &&& (2147483647 : Int32)) % (250 : Int32)) := ⟨_, rfl⟩
      rw [← hii]
      have bii : 0 ≤ ii.toInt ∧ ii.toInt < 250 := by rw [hii]; exact own_md p3 (250 : Int32) 250 (by decide) (by decide)
      have ii0 : ¬ ii < 0 := own_nlt_ bii.1
      have ii1 : ii < (250 : Int32) := own_lt_ bii.2
      have iiN : ii.toNatClampNeg < 250 := by have := nat_of ii0; omega
      obtain ⟨jj, hjj⟩ : ∃ z : Int32, z = ((p4 &&& (2147483647 : Int32)) % (250 : Int32)) := ⟨_, rfl⟩
      rw [← hjj]
      have bjj : 0 ≤ jj.toInt ∧ jj.toInt < 250 := by rw [hjj]; exact own_md p4 (250 : Int32) 250 (by decide) (by decide)
      have jj0 : ¬ jj < 0 := own_nlt_ bjj.1
      have jj1 : jj < (250 : Int32) := own_lt_ bjj.2
      have jjN : jj.toNatClampNeg < 250 := by have := nat_of jj0; omega
      refine s_aload (pc' := 63) X1.here hx (hb hby at_61) rfl rfl rfl ?_
      refine s_iload (pc' := 65) X1.here hx (hb hby at_63) rfl rfl ?_
      refine s_iloadN (pc' := 66) X1.here hx (hb hby at_65) rfl rfl ?_
      refine s_i2b (pc' := 67) X1.here hx (hb hby at_66) rfl ?_
      refine s_putB (pc' := 68) X1 hx hZ rfl Vb ⟨ii0, ii1⟩ ii.toNatClampNeg rfl (by rw [own_len0]; exact iiN) (hb hby at_67) rfl fun T6 hp6 X6 e6 W6 Vw6 => ?_
      have V7 : Arv Z hp6 ba kb .byte (250 : Int32) (own_L0.set ii.toNatClampNeg (.int (nar .byte (p1.toInt8.toInt32)))) (.int (0 : Int32)) := Vw6
      have N6 := Fr.snoc X6 N1 g_ba
      have O8 := O4.wr W6 g_ba
      replace hk := Nat.le_trans hk (Keep.of_wr W6).1
      have Z9 : n0 ≤ hp6.size := Nat.le_trans Z5 (Keep.of_wr W6).1
      refine s_aload (pc' := 70) X6.here hx (hb hby at_68) rfl rfl rfl ?_
      refine s_iload (pc' := 72) X6.here hx (hb hby at_70) rfl rfl ?_
      refine s_iloadN (pc' := 73) X6.here hx (hb hby at_72) rfl rfl ?_
      refine s_i2b (pc' := 74) X6.here hx (hb hby at_73) rfl ?_
      refine s_putB (pc' := 75) X6 hx hZ e6 V7 ⟨jj0, jj1⟩ jj.toNatClampNeg rfl (by rw [List.length_set, own_len0]; exact jjN) (hb hby at_74) rfl fun T10 hp10 X10 e10 W10 Vw10 => ?_
      have V11 : Arv Z hp10 ba kb .byte (250 : Int32) ((own_L0.set ii.toNatClampNeg (.int (nar .byte (p1.toInt8.toInt32)))).set jj.toNatClampNeg (.int (nar .byte (p2.toInt8.toInt32)))) (.int (0 : Int32)) := Vw10
      have N10 := Fr.snoc X10 N6 g_ba
      have O12 := O8.wr W10 g_ba
      replace hk := Nat.le_trans hk (Keep.of_wr W10).1
      have Z13 : n0 ≤ hp10.size := Nat.le_trans Z9 (Keep.of_wr W10).1
      refine s_iload (pc' := 77) X10.here hx (hb hby at_75) rfl rfl ?_
      refine s_iload (pc' := 79) X10.here hx (hb hby at_77) rfl rfl ?_
      by_cases hij : ii = jj
      · refine s_icmpNo (pc' := 82) X10.here hx (hb hby at_79) (teq hij).2 rfl ?_
        refine s_iloadN (pc' := 83) X10.here hx (hb hby at_82) rfl rfl ?_
        refine s_callS (pc' := 86) (W := 0) X10 hx hZ  hown (hw _ (List.mem_of_getElem? (i := 5) rfl)) (hw _ (List.mem_of_getElem? (i := 6) rfl)) (hw _ (List.mem_of_getElem? (i := 7) rfl)) (hw _ (List.mem_of_getElem? (i := 8) rfl)) (by decide) e10 (own_ok l Z a0 hw [] p2 hp10 n0 Z13 ) (by rw [hml]; rfl) [(.int p2)] [] rfl (lenOf own_pd7 rfl) rfl (Nat.le_of_eq rfl) (by decide) (by decide) (by decide) (by decide) rfl (hb hby at_83) fun T14 v14 Lc14 X14 hQ14 => ?_
        obtain ⟨rfl, Nq14, eh14⟩ := hQ14
        have N14 := Fr.app N10 Nq14
        show Ends p.tables e below (T14.setTop (mkF m 86 #[.val (.int p0), .val (.int p1), .val (.int p2), .val (.int p3), .val (.int p4), .val (.int m5), .val (.int n6), .val (.int (0 : Int32)), .val (.ref ba), .val (.int (250 : Int32)), .val (.int ii), .val (.int jj), .unset, .unset] [(.int (own_okr p2))])) _
        refine s_goto (pc' := 108) X14.here hx (hb hby at_86) (by decide) (by decide) ?_
        refine s_istore (pc' := 110) X14.here hx (l' := #[.val (.int p0), .val (.int p1), .val (.int p2), .val (.int p3), .val (.int p4), .val (.int m5), .val (.int n6), .val (.int (0 : Int32)), .val (.ref ba), .val (.int (250 : Int32)), .val (.int ii), .val (.int jj), .val (.int (own_okr p2)), .unset]) (hb hby at_108) rfl rfl ?_
        refine s_iload (pc' := 112) X14.here hx (hb hby at_110) rfl rfl ?_
        refine s_sipush (pc' := 115) X14.here hx (v := (250 : Int32)) (hb hby at_112) rfl rfl ?_
        have hk15 : ¬ ((250 : Int32) < (250 : Int32)) := by decide
        refine s_icmpNo (pc' := 118) X14.here hx (hb hby at_115) (flt hk15).2.2.1 rfl ?_
        refine s_iload (pc' := 120) X14.here hx (hb hby at_118) rfl rfl ?_
        by_cases hk2 : (own_okr p2) = (0 : Int32)
        · refine s_ifYes (pc' := 127) X14.here hx (hb hby at_120) ((if0 _ _).trans (teq hk2).1) (by decide) (by decide) ?_
          refine s_iconst (pc' := 128) X14.here hx (v := (0 : Int32)) (hb hby at_127) rfl rfl ?_
          refine s_istore (pc' := 130) X14.here hx (l' := #[.val (.int p0), .val (.int p1), .val (.int p2), .val (.int p3), .val (.int p4), .val (.int m5), .val (.int n6), .val (.int (0 : Int32)), .val (.ref ba), .val (.int (250 : Int32)), .val (.int ii), .val (.int jj), .val (.int (own_okr p2)), .val (.int (0 : Int32))]) (hb hby at_128) rfl rfl ?_
          refine s_aload (pc' := 132) X14.here hx (hb hby at_130) rfl rfl rfl ?_
          obtain ⟨r, r01, hrr⟩ := own_pick (own_V (250 : Int32) ((own_L0.set ii.toNatClampNeg (.int (nar .byte (p1.toInt8.toInt32)))).set jj.toNatClampNeg (.int (nar .byte (p2.toInt8.toInt32)))))
          refine s_callS (pc' := 135) (W := 0) X14 hx hZ  hown (hw _ (List.mem_of_getElem? (i := 1) rfl)) (hw _ (List.mem_of_getElem? (i := 2) rfl)) (hw _ (List.mem_of_getElem? (i := 3) rfl)) (hw _ (List.mem_of_getElem? (i := 4) rfl)) (by decide) eh14 (own_isv l Z a0 hw [] ba kb (250 : Int32) ((own_L0.set ii.toNatClampNeg (.int (nar .byte (p1.toInt8.toInt32)))).set jj.toNatClampNeg (.int (nar .byte (p2.toInt8.toInt32)))) r hp10 n0 Z13 V11 r01 hrr) (by rw [hml]; rfl) [(.ref ba)] [] rfl (lenOf own_pd8 rfl) rfl (Nat.le_of_eq rfl) (by decide) (by decide) (by decide) (by decide) rfl (hb hby at_132) fun T16 v16 Lc16 X16 hQ16 => ?_
          obtain ⟨rfl, Nq16, eh16⟩ := hQ16
          have N16 := Fr.app N14 Nq16
          show Ends p.tables e below (T16.setTop (mkF m 135 #[.val (.int p0), .val (.int p1), .val (.int p2), .val (.int p3), .val (.int p4), .val (.int m5), .val (.int n6), .val (.int (0 : Int32)), .val (.ref ba), .val (.int (250 : Int32)), .val (.int ii), .val (.int jj), .val (.int (own_okr p2)), .val (.int (0 : Int32))] [(.int r)])) _
          refine s_iload (pc' := 137) X16.here hx (hb hby at_135) rfl rfl ?_
          have hk17 : r = (0 : Int32) := own_r0 r01 hrr (fun q => own_gok0 hk2 ((own_V0 iiN jjN).mp q).1)
          refine s_icmpNo (pc' := 140) X16.here hx (hb hby at_137) (teq hk17).2 rfl ?_
          refine s_iconst (pc' := 141) X16.here hx (v := (1 : Int32)) (hb hby at_140) rfl rfl ?_
          refine s_goto (pc' := 145) X16.here hx (hb hby at_141) (by decide) (by decide) ?_
          obtain ⟨fs, hr, hrun, hended, hRW⟩ := X16.leaveW hS (show _ ≤ T16.heap.size from by rw [eh16]; exact hk) (v := some (.int (1 : Int32))) (fun h => by rw [Bd.returns] at h; cases h)
          refine ⟨_, _, retN X16 hx (t := .boolean) Bd.returns (by simp) (hb hby at_145) hr, hrun, hended, _, _, rfl, ?_, own_rwm hRW (by decide) (by decide)⟩
          show own_rm0_Q Z p0 p1 p2 p3 p4 ci cu cs h0 n0 _ T16.heap _
          rw [eh16]
          exact ⟨rfl, N16⟩
        · refine s_ifNo (pc' := 123) X14.here hx (hb hby at_120) ((if0 _ _).trans (feq hk2).1) rfl ?_
          refine s_iconst (pc' := 124) X14.here hx (v := (1 : Int32)) (hb hby at_123) rfl rfl ?_
          refine s_goto (pc' := 128) X14.here hx (hb hby at_124) (by decide) (by decide) ?_
          refine s_istore (pc' := 130) X14.here hx (l' := #[.val (.int p0), .val (.int p1), .val (.int p2), .val (.int p3), .val (.int p4), .val (.int m5), .val (.int n6), .val (.int (0 : Int32)), .val (.ref ba), .val (.int (250 : Int32)), .val (.int ii), .val (.int jj), .val (.int (own_okr p2)), .val (.int (1 : Int32))]) (hb hby at_128) rfl rfl ?_
          refine s_aload (pc' := 132) X14.here hx (hb hby at_130) rfl rfl rfl ?_
          obtain ⟨r, r01, hrr⟩ := own_pick (own_V (250 : Int32) ((own_L0.set ii.toNatClampNeg (.int (nar .byte (p1.toInt8.toInt32)))).set jj.toNatClampNeg (.int (nar .byte (p2.toInt8.toInt32)))))
          refine s_callS (pc' := 135) (W := 0) X14 hx hZ  hown (hw _ (List.mem_of_getElem? (i := 1) rfl)) (hw _ (List.mem_of_getElem? (i := 2) rfl)) (hw _ (List.mem_of_getElem? (i := 3) rfl)) (hw _ (List.mem_of_getElem? (i := 4) rfl)) (by decide) eh14 (own_isv l Z a0 hw [] ba kb (250 : Int32) ((own_L0.set ii.toNatClampNeg (.int (nar .byte (p1.toInt8.toInt32)))).set jj.toNatClampNeg (.int (nar .byte (p2.toInt8.toInt32)))) r hp10 n0 Z13 V11 r01 hrr) (by rw [hml]; rfl) [(.ref ba)] [] rfl (lenOf own_pd8 rfl) rfl (Nat.le_of_eq rfl) (by decide) (by decide) (by decide) (by decide) rfl (hb hby at_132) fun T18 v18 Lc18 X18 hQ18 => ?_
          obtain ⟨rfl, Nq18, eh18⟩ := hQ18
          have N18 := Fr.app N14 Nq18
          show Ends p.tables e below (T18.setTop (mkF m 135 #[.val (.int p0), .val (.int p1), .val (.int p2), .val (.int p3), .val (.int p4), .val (.int m5), .val (.int n6), .val (.int (0 : Int32)), .val (.ref ba), .val (.int (250 : Int32)), .val (.int ii), .val (.int jj), .val (.int (own_okr p2)), .val (.int (1 : Int32))] [(.int r)])) _
          refine s_iload (pc' := 137) X18.here hx (hb hby at_135) rfl rfl ?_
          have hk19 : r = (1 : Int32) := hrr.mpr ((own_V0 iiN jjN).mpr ⟨(own_gok _).mpr hk2, fun ne => absurd (congrArg Int32.toNatClampNeg hij) ne⟩)
          refine s_icmpNo (pc' := 140) X18.here hx (hb hby at_137) (teq hk19).2 rfl ?_
          refine s_iconst (pc' := 141) X18.here hx (v := (1 : Int32)) (hb hby at_140) rfl rfl ?_
          refine s_goto (pc' := 145) X18.here hx (hb hby at_141) (by decide) (by decide) ?_
          obtain ⟨fs, hr, hrun, hended, hRW⟩ := X18.leaveW hS (show _ ≤ T18.heap.size from by rw [eh18]; exact hk) (v := some (.int (1 : Int32))) (fun h => by rw [Bd.returns] at h; cases h)
          refine ⟨_, _, retN X18 hx (t := .boolean) Bd.returns (by simp) (hb hby at_145) hr, hrun, hended, _, _, rfl, ?_, own_rwm hRW (by decide) (by decide)⟩
          show own_rm0_Q Z p0 p1 p2 p3 p4 ci cu cs h0 n0 _ T18.heap _
          rw [eh18]
          exact ⟨rfl, N18⟩
      · refine s_icmpYes (pc' := 89) X10.here hx (hb hby at_79) (feq hij).2 (by decide) (by decide) ?_
        have hijN : ii.toNatClampNeg ≠ jj.toNatClampNeg := fun q => hij (Int32.toInt_inj.mp (by have q1 := nat_of ii0; have q2 := nat_of jj0; omega))
        refine s_iloadN (pc' := 90) X10.here hx (hb hby at_89) rfl rfl ?_
        refine s_callS (pc' := 93) (W := 0) X10 hx hZ  hown (hw _ (List.mem_of_getElem? (i := 5) rfl)) (hw _ (List.mem_of_getElem? (i := 6) rfl)) (hw _ (List.mem_of_getElem? (i := 7) rfl)) (hw _ (List.mem_of_getElem? (i := 8) rfl)) (by decide) e10 (own_ok l Z a0 hw [] p1 hp10 n0 Z13 ) (by rw [hml]; rfl) [(.int p1)] [] rfl (lenOf own_pd7 rfl) rfl (Nat.le_of_eq rfl) (by decide) (by decide) (by decide) (by decide) rfl (hb hby at_90) fun T20 v20 Lc20 X20 hQ20 => ?_
        obtain ⟨rfl, Nq20, eh20⟩ := hQ20
        have N20 := Fr.app N10 Nq20
        show Ends p.tables e below (T20.setTop (mkF m 93 #[.val (.int p0), .val (.int p1), .val (.int p2), .val (.int p3), .val (.int p4), .val (.int m5), .val (.int n6), .val (.int (0 : Int32)), .val (.ref ba), .val (.int (250 : Int32)), .val (.int ii), .val (.int jj), .unset, .unset] [(.int (own_okr p1))])) _
        by_cases hk1 : (own_okr p1) = (0 : Int32)
        · refine s_ifYes (pc' := 107) X20.here hx (hb hby at_93) ((if0 _ _).trans (teq hk1).1) (by decide) (by decide) ?_
          refine s_iconst (pc' := 108) X20.here hx (v := (0 : Int32)) (hb hby at_107) rfl rfl ?_
          refine s_istore (pc' := 110) X20.here hx (l' := #[.val (.int p0), .val (.int p1), .val (.int p2), .val (.int p3), .val (.int p4), .val (.int m5), .val (.int n6), .val (.int (0 : Int32)), .val (.ref ba), .val (.int (250 : Int32)), .val (.int ii), .val (.int jj), .val (.int (0 : Int32)), .unset]) (hb hby at_108) rfl rfl ?_
          refine s_iload (pc' := 112) X20.here hx (hb hby at_110) rfl rfl ?_
          refine s_sipush (pc' := 115) X20.here hx (v := (250 : Int32)) (hb hby at_112) rfl rfl ?_
          have hk21 : ¬ ((250 : Int32) < (250 : Int32)) := by decide
          refine s_icmpNo (pc' := 118) X20.here hx (hb hby at_115) (flt hk21).2.2.1 rfl ?_
          refine s_iload (pc' := 120) X20.here hx (hb hby at_118) rfl rfl ?_
          have hk22 : (0 : Int32) = (0 : Int32) := rfl
          refine s_ifYes (pc' := 127) X20.here hx (hb hby at_120) ((if0 _ _).trans (teq hk22).1) (by decide) (by decide) ?_
          refine s_iconst (pc' := 128) X20.here hx (v := (0 : Int32)) (hb hby at_127) rfl rfl ?_
          refine s_istore (pc' := 130) X20.here hx (l' := #[.val (.int p0), .val (.int p1), .val (.int p2), .val (.int p3), .val (.int p4), .val (.int m5), .val (.int n6), .val (.int (0 : Int32)), .val (.ref ba), .val (.int (250 : Int32)), .val (.int ii), .val (.int jj), .val (.int (0 : Int32)), .val (.int (0 : Int32))]) (hb hby at_128) rfl rfl ?_
          refine s_aload (pc' := 132) X20.here hx (hb hby at_130) rfl rfl rfl ?_
          obtain ⟨r, r01, hrr⟩ := own_pick (own_V (250 : Int32) ((own_L0.set ii.toNatClampNeg (.int (nar .byte (p1.toInt8.toInt32)))).set jj.toNatClampNeg (.int (nar .byte (p2.toInt8.toInt32)))))
          refine s_callS (pc' := 135) (W := 0) X20 hx hZ  hown (hw _ (List.mem_of_getElem? (i := 1) rfl)) (hw _ (List.mem_of_getElem? (i := 2) rfl)) (hw _ (List.mem_of_getElem? (i := 3) rfl)) (hw _ (List.mem_of_getElem? (i := 4) rfl)) (by decide) eh20 (own_isv l Z a0 hw [] ba kb (250 : Int32) ((own_L0.set ii.toNatClampNeg (.int (nar .byte (p1.toInt8.toInt32)))).set jj.toNatClampNeg (.int (nar .byte (p2.toInt8.toInt32)))) r hp10 n0 Z13 V11 r01 hrr) (by rw [hml]; rfl) [(.ref ba)] [] rfl (lenOf own_pd8 rfl) rfl (Nat.le_of_eq rfl) (by decide) (by decide) (by decide) (by decide) rfl (hb hby at_132) fun T23 v23 Lc23 X23 hQ23 => ?_
          obtain ⟨rfl, Nq23, eh23⟩ := hQ23
          have N23 := Fr.app N20 Nq23
          show Ends p.tables e below (T23.setTop (mkF m 135 #[.val (.int p0), .val (.int p1), .val (.int p2), .val (.int p3), .val (.int p4), .val (.int m5), .val (.int n6), .val (.int (0 : Int32)), .val (.ref ba), .val (.int (250 : Int32)), .val (.int ii), .val (.int jj), .val (.int (0 : Int32)), .val (.int (0 : Int32))] [(.int r)])) _
          refine s_iload (pc' := 137) X23.here hx (hb hby at_135) rfl rfl ?_
          have hk24 : r = (0 : Int32) := own_r0 r01 hrr (fun q => own_gok0 hk1 (((own_V0 iiN jjN).mp q).2 hijN))
          refine s_icmpNo (pc' := 140) X23.here hx (hb hby at_137) (teq hk24).2 rfl ?_
          refine s_iconst (pc' := 141) X23.here hx (v := (1 : Int32)) (hb hby at_140) rfl rfl ?_
          refine s_goto (pc' := 145) X23.here hx (hb hby at_141) (by decide) (by decide) ?_
          obtain ⟨fs, hr, hrun, hended, hRW⟩ := X23.leaveW hS (show _ ≤ T23.heap.size from by rw [eh23]; exact hk) (v := some (.int (1 : Int32))) (fun h => by rw [Bd.returns] at h; cases h)
          refine ⟨_, _, retN X23 hx (t := .boolean) Bd.returns (by simp) (hb hby at_145) hr, hrun, hended, _, _, rfl, ?_, own_rwm hRW (by decide) (by decide)⟩
          show own_rm0_Q Z p0 p1 p2 p3 p4 ci cu cs h0 n0 _ T23.heap _
          rw [eh23]
          exact ⟨rfl, N23⟩
        · refine s_ifNo (pc' := 96) X20.here hx (hb hby at_93) ((if0 _ _).trans (feq hk1).1) rfl ?_
          refine s_iloadN (pc' := 97) X20.here hx (hb hby at_96) rfl rfl ?_
          refine s_callS (pc' := 100) (W := 0) X20 hx hZ  hown (hw _ (List.mem_of_getElem? (i := 5) rfl)) (hw _ (List.mem_of_getElem? (i := 6) rfl)) (hw _ (List.mem_of_getElem? (i := 7) rfl)) (hw _ (List.mem_of_getElem? (i := 8) rfl)) (by decide) eh20 (own_ok l Z a0 hw [] p2 hp10 n0 Z13 ) (by rw [hml]; rfl) [(.int p2)] [] rfl (lenOf own_pd7 rfl) rfl (Nat.le_of_eq rfl) (by decide) (by decide) (by decide) (by decide) rfl (hb hby at_97) fun T25 v25 Lc25 X25 hQ25 => ?_
          obtain ⟨rfl, Nq25, eh25⟩ := hQ25
          have N25 := Fr.app N20 Nq25
          show Ends p.tables e below (T25.setTop (mkF m 100 #[.val (.int p0), .val (.int p1), .val (.int p2), .val (.int p3), .val (.int p4), .val (.int m5), .val (.int n6), .val (.int (0 : Int32)), .val (.ref ba), .val (.int (250 : Int32)), .val (.int ii), .val (.int jj), .unset, .unset] [(.int (own_okr p2))])) _
          by_cases hk2 : (own_okr p2) = (0 : Int32)
          · refine s_ifYes (pc' := 107) X25.here hx (hb hby at_100) ((if0 _ _).trans (teq hk2).1) (by decide) (by decide) ?_
            refine s_iconst (pc' := 108) X25.here hx (v := (0 : Int32)) (hb hby at_107) rfl rfl ?_
            refine s_istore (pc' := 110) X25.here hx (l' := #[.val (.int p0), .val (.int p1), .val (.int p2), .val (.int p3), .val (.int p4), .val (.int m5), .val (.int n6), .val (.int (0 : Int32)), .val (.ref ba), .val (.int (250 : Int32)), .val (.int ii), .val (.int jj), .val (.int (0 : Int32)), .unset]) (hb hby at_108) rfl rfl ?_
            refine s_iload (pc' := 112) X25.here hx (hb hby at_110) rfl rfl ?_
            refine s_sipush (pc' := 115) X25.here hx (v := (250 : Int32)) (hb hby at_112) rfl rfl ?_
            have hk26 : ¬ ((250 : Int32) < (250 : Int32)) := by decide
            refine s_icmpNo (pc' := 118) X25.here hx (hb hby at_115) (flt hk26).2.2.1 rfl ?_
            refine s_iload (pc' := 120) X25.here hx (hb hby at_118) rfl rfl ?_
            have hk27 : (0 : Int32) = (0 : Int32) := rfl
            refine s_ifYes (pc' := 127) X25.here hx (hb hby at_120) ((if0 _ _).trans (teq hk27).1) (by decide) (by decide) ?_
            refine s_iconst (pc' := 128) X25.here hx (v := (0 : Int32)) (hb hby at_127) rfl rfl ?_
            refine s_istore (pc' := 130) X25.here hx (l' := #[.val (.int p0), .val (.int p1), .val (.int p2), .val (.int p3), .val (.int p4), .val (.int m5), .val (.int n6), .val (.int (0 : Int32)), .val (.ref ba), .val (.int (250 : Int32)), .val (.int ii), .val (.int jj), .val (.int (0 : Int32)), .val (.int (0 : Int32))]) (hb hby at_128) rfl rfl ?_
            refine s_aload (pc' := 132) X25.here hx (hb hby at_130) rfl rfl rfl ?_
            obtain ⟨r, r01, hrr⟩ := own_pick (own_V (250 : Int32) ((own_L0.set ii.toNatClampNeg (.int (nar .byte (p1.toInt8.toInt32)))).set jj.toNatClampNeg (.int (nar .byte (p2.toInt8.toInt32)))))
            refine s_callS (pc' := 135) (W := 0) X25 hx hZ  hown (hw _ (List.mem_of_getElem? (i := 1) rfl)) (hw _ (List.mem_of_getElem? (i := 2) rfl)) (hw _ (List.mem_of_getElem? (i := 3) rfl)) (hw _ (List.mem_of_getElem? (i := 4) rfl)) (by decide) eh25 (own_isv l Z a0 hw [] ba kb (250 : Int32) ((own_L0.set ii.toNatClampNeg (.int (nar .byte (p1.toInt8.toInt32)))).set jj.toNatClampNeg (.int (nar .byte (p2.toInt8.toInt32)))) r hp10 n0 Z13 V11 r01 hrr) (by rw [hml]; rfl) [(.ref ba)] [] rfl (lenOf own_pd8 rfl) rfl (Nat.le_of_eq rfl) (by decide) (by decide) (by decide) (by decide) rfl (hb hby at_132) fun T28 v28 Lc28 X28 hQ28 => ?_
            obtain ⟨rfl, Nq28, eh28⟩ := hQ28
            have N28 := Fr.app N25 Nq28
            show Ends p.tables e below (T28.setTop (mkF m 135 #[.val (.int p0), .val (.int p1), .val (.int p2), .val (.int p3), .val (.int p4), .val (.int m5), .val (.int n6), .val (.int (0 : Int32)), .val (.ref ba), .val (.int (250 : Int32)), .val (.int ii), .val (.int jj), .val (.int (0 : Int32)), .val (.int (0 : Int32))] [(.int r)])) _
            refine s_iload (pc' := 137) X28.here hx (hb hby at_135) rfl rfl ?_
            have hk29 : r = (0 : Int32) := own_r0 r01 hrr (fun q => own_gok0 hk2 ((own_V0 iiN jjN).mp q).1)
            refine s_icmpNo (pc' := 140) X28.here hx (hb hby at_137) (teq hk29).2 rfl ?_
            refine s_iconst (pc' := 141) X28.here hx (v := (1 : Int32)) (hb hby at_140) rfl rfl ?_
            refine s_goto (pc' := 145) X28.here hx (hb hby at_141) (by decide) (by decide) ?_
            obtain ⟨fs, hr, hrun, hended, hRW⟩ := X28.leaveW hS (show _ ≤ T28.heap.size from by rw [eh28]; exact hk) (v := some (.int (1 : Int32))) (fun h => by rw [Bd.returns] at h; cases h)
            refine ⟨_, _, retN X28 hx (t := .boolean) Bd.returns (by simp) (hb hby at_145) hr, hrun, hended, _, _, rfl, ?_, own_rwm hRW (by decide) (by decide)⟩
            show own_rm0_Q Z p0 p1 p2 p3 p4 ci cu cs h0 n0 _ T28.heap _
            rw [eh28]
            exact ⟨rfl, N28⟩
          · refine s_ifNo (pc' := 103) X25.here hx (hb hby at_100) ((if0 _ _).trans (feq hk2).1) rfl ?_
            refine s_iconst (pc' := 104) X25.here hx (v := (1 : Int32)) (hb hby at_103) rfl rfl ?_
            refine s_goto (pc' := 108) X25.here hx (hb hby at_104) (by decide) (by decide) ?_
            refine s_istore (pc' := 110) X25.here hx (l' := #[.val (.int p0), .val (.int p1), .val (.int p2), .val (.int p3), .val (.int p4), .val (.int m5), .val (.int n6), .val (.int (0 : Int32)), .val (.ref ba), .val (.int (250 : Int32)), .val (.int ii), .val (.int jj), .val (.int (1 : Int32)), .unset]) (hb hby at_108) rfl rfl ?_
            refine s_iload (pc' := 112) X25.here hx (hb hby at_110) rfl rfl ?_
            refine s_sipush (pc' := 115) X25.here hx (v := (250 : Int32)) (hb hby at_112) rfl rfl ?_
            have hk30 : ¬ ((250 : Int32) < (250 : Int32)) := by decide
            refine s_icmpNo (pc' := 118) X25.here hx (hb hby at_115) (flt hk30).2.2.1 rfl ?_
            refine s_iload (pc' := 120) X25.here hx (hb hby at_118) rfl rfl ?_
            have hk31 : ¬ ((1 : Int32) = (0 : Int32)) := by decide
            refine s_ifNo (pc' := 123) X25.here hx (hb hby at_120) ((if0 _ _).trans (feq hk31).1) rfl ?_
            refine s_iconst (pc' := 124) X25.here hx (v := (1 : Int32)) (hb hby at_123) rfl rfl ?_
            refine s_goto (pc' := 128) X25.here hx (hb hby at_124) (by decide) (by decide) ?_
            refine s_istore (pc' := 130) X25.here hx (l' := #[.val (.int p0), .val (.int p1), .val (.int p2), .val (.int p3), .val (.int p4), .val (.int m5), .val (.int n6), .val (.int (0 : Int32)), .val (.ref ba), .val (.int (250 : Int32)), .val (.int ii), .val (.int jj), .val (.int (1 : Int32)), .val (.int (1 : Int32))]) (hb hby at_128) rfl rfl ?_
            refine s_aload (pc' := 132) X25.here hx (hb hby at_130) rfl rfl rfl ?_
            obtain ⟨r, r01, hrr⟩ := own_pick (own_V (250 : Int32) ((own_L0.set ii.toNatClampNeg (.int (nar .byte (p1.toInt8.toInt32)))).set jj.toNatClampNeg (.int (nar .byte (p2.toInt8.toInt32)))))
            refine s_callS (pc' := 135) (W := 0) X25 hx hZ  hown (hw _ (List.mem_of_getElem? (i := 1) rfl)) (hw _ (List.mem_of_getElem? (i := 2) rfl)) (hw _ (List.mem_of_getElem? (i := 3) rfl)) (hw _ (List.mem_of_getElem? (i := 4) rfl)) (by decide) eh25 (own_isv l Z a0 hw [] ba kb (250 : Int32) ((own_L0.set ii.toNatClampNeg (.int (nar .byte (p1.toInt8.toInt32)))).set jj.toNatClampNeg (.int (nar .byte (p2.toInt8.toInt32)))) r hp10 n0 Z13 V11 r01 hrr) (by rw [hml]; rfl) [(.ref ba)] [] rfl (lenOf own_pd8 rfl) rfl (Nat.le_of_eq rfl) (by decide) (by decide) (by decide) (by decide) rfl (hb hby at_132) fun T32 v32 Lc32 X32 hQ32 => ?_
            obtain ⟨rfl, Nq32, eh32⟩ := hQ32
            have N32 := Fr.app N25 Nq32
            show Ends p.tables e below (T32.setTop (mkF m 135 #[.val (.int p0), .val (.int p1), .val (.int p2), .val (.int p3), .val (.int p4), .val (.int m5), .val (.int n6), .val (.int (0 : Int32)), .val (.ref ba), .val (.int (250 : Int32)), .val (.int ii), .val (.int jj), .val (.int (1 : Int32)), .val (.int (1 : Int32))] [(.int r)])) _
            refine s_iload (pc' := 137) X32.here hx (hb hby at_135) rfl rfl ?_
            have hk33 : r = (1 : Int32) := hrr.mpr ((own_V0 iiN jjN).mpr ⟨(own_gok _).mpr hk2, fun _ => (own_gok _).mpr hk1⟩)
            refine s_icmpNo (pc' := 140) X32.here hx (hb hby at_137) (teq hk33).2 rfl ?_
            refine s_iconst (pc' := 141) X32.here hx (v := (1 : Int32)) (hb hby at_140) rfl rfl ?_
            refine s_goto (pc' := 145) X32.here hx (hb hby at_141) (by decide) (by decide) ?_
            obtain ⟨fs, hr, hrun, hended, hRW⟩ := X32.leaveW hS (show _ ≤ T32.heap.size from by rw [eh32]; exact hk) (v := some (.int (1 : Int32))) (fun h => by rw [Bd.returns] at h; cases h)
            refine ⟨_, _, retN X32 hx (t := .boolean) Bd.returns (by simp) (hb hby at_145) hr, hrun, hended, _, _, rfl, ?_, own_rwm hRW (by decide) (by decide)⟩
            show own_rm0_Q Z p0 p1 p2 p3 p4 ci cu cs h0 n0 _ T32.heap _
            rw [eh32]
            exact ⟨rfl, N32⟩
    · refine s_ifNo (pc' := 23) X0w.here hx (hb hby at_20) ((if0 _ _).trans (feq hf).1) rfl ?_
      refine s_iconst (pc' := 24) X0w.here hx (v := (1 : Int32)) (hb hby at_23) rfl rfl ?_
      refine s_goto (pc' := 28) X0w.here hx (hb hby at_24) (by decide) (by decide) ?_
      refine s_istore (pc' := 30) X0w.here hx (l' := #[.val (.int p0), .val (.int p1), .val (.int p2), .val (.int p3), .val (.int p4), .val (.int m5), .val (.int n6), .val (.int (1 : Int32)), .unset, .unset, .unset, .unset, .unset, .unset]) (hb hby at_28) rfl rfl ?_
      refine s_iload (pc' := 32) X0w.here hx (hb hby at_30) rfl rfl ?_
      refine s_callSH (pc' := 35) (W := 0) X0w hx hZ hS hk (own_EW hw) HC0  hown (hw _ (List.mem_of_getElem? (i := 9) rfl)) (hw _ (List.mem_of_getElem? (i := 10) rfl)) (hw _ (List.mem_of_getElem? (i := 7) rfl)) (hw _ (List.mem_of_getElem? (i := 11) rfl)) (by decide) e0 (own_dig1 l Z a0 hw [] ci cu cs h0 n0 Z0 O0 S_cs hcs S_i S_u S_s ne_c) own_safe0 (by rw [hml]; rfl) [(.int (1 : Int32))] [] rfl (lenOf own_pd6 rfl) rfl (Nat.le_of_eq rfl) (by decide) (by decide) (by decide) (by decide) rfl (hb hby at_32) fun T34 v34 Lc34 X34 hS hZ hown hr34 hQ34 => ?_
      obtain ⟨ba, kb, rfl, Nq34, Kq34, szb, Vb⟩ := hQ34
      have g_ba : n0 ≤ ba := Nat.le_trans Z0 szb
      have HR35 := CHr.trans HR0 (hr34)
      have HC36 := hr34.1
      have O37 := O0.keep Kq34 all0
      have N34 := Fr.app N0 Nq34
      have hk : T34.heap.size ≤ T34.heap.size := Nat.le_refl _
      have Z38 : n0 ≤ T34.heap.size := Nat.le_trans Z0 Kq34.1
      show Ends p.tables e below (T34.setTop (mkF m 35 #[.val (.int p0), .val (.int p1), .val (.int p2), .val (.int p3), .val (.int p4), .val (.int m5), .val (.int n6), .val (.int (1 : Int32)), .unset, .unset, .unset, .unset, .unset, .unset] [(.ref ba)])) _
      refine s_astore (pc' := 37) X34.here hx (l' := #[.val (.int p0), .val (.int p1), .val (.int p2), .val (.int p3), .val (.int p4), .val (.int m5), .val (.int n6), .val (.int (1 : Int32)), .val (.ref ba), .unset, .unset, .unset, .unset, .unset]) (hb hby at_35) rfl rfl rfl ?_
      refine s_aload (pc' := 39) X34.here hx (hb hby at_37) rfl rfl rfl ?_
      refine s_arraylength (pc' := 40) X34 hx hZ rfl Vb (hb hby at_39) rfl ?_
      refine s_istore (pc' := 42) X34.here hx (l' := #[.val (.int p0), .val (.int p1), .val (.int p2), .val (.int p3), .val (.int p4), .val (.int m5), .val (.int n6), .val (.int (1 : Int32)), .val (.ref ba), .val (.int (251 : Int32)), .unset, .unset, .unset, .unset]) (hb hby at_40) rfl rfl ?_
      refine s_iloadN (pc' := 43) X34.here hx (hb hby at_42) rfl rfl ?_
      refine s_ldcI (pc' := 45) X34 hx hZ hown (hw _ (List.mem_of_getElem? (i := 59) rfl)) (hb hby at_43) rfl ?_
      refine s_iand (pc' := 46) X34.here hx (hb hby at_45) rfl ?_
      refine s_iload (pc' := 48) X34.here hx (hb hby at_46) rfl rfl ?_
      refine s_irem (pc' := 49) X34 hx (hb hby at_48) (by decide) rfl ?_
      refine s_istore (pc' := 51) X34.here hx (l' := #[.val (.int p0), .val (.int p1), .val (.int p2), .val (.int p3), .val (.int p4), .val (.int m5), .val (.int n6), .val (.int (1 : Int32)), .val (.ref ba), .val (.int (251 : Int32)), .val (.int ((p3 &&& (2147483647 : Int32)) % (251 : Int32))), .unset, .unset, .unset]) (hb hby at_49) rfl rfl ?_
      refine s_iload (pc' := 53) X34.here hx (hb hby at_51) rfl rfl ?_
      refine s_ldcI (pc' := 55) X34 hx hZ hown (hw _ (List.mem_of_getElem? (i := 59) rfl)) (hb hby at_53) rfl ?_
      refine s_iand (pc' := 56) X34.here hx (hb hby at_55) rfl ?_
      refine s_iload (pc' := 58) X34.here hx (hb hby at_56) rfl rfl ?_
      refine s_irem (pc' := 59) X34 hx (hb hby at_58) (by decide) rfl ?_
      refine s_istore (pc' := 61) X34.here hx (l' := #[.val (.int p0), .val (.int p1), .val (.int p2), .val (.int p3), .val (.int p4), .val (.int m5), .val (.int n6), .val (.int (1 : Int32)), .val (.ref ba), .val (.int (251 : Int32)), .val (.int ((p3 &&& (2147483647 : Int32)) % (251 : Int32))), .val (.int ((p4 &&& (2147483647 : Int32)) % (251 : Int32))), .unset, .unset]) (hb hby at_59) rfl rfl ?_
      obtain ⟨ii, hii⟩ : ∃ z : Int32, z = ((p3 &&& (2147483647 : Int32)) % (251 : Int32)) := ⟨_, rfl⟩
      rw [← hii]
      have bii : 0 ≤ ii.toInt ∧ ii.toInt < 251 := by rw [hii]; exact own_md p3 (251 : Int32) 251 (by decide) (by decide)
      have ii0 : ¬ ii < 0 := own_nlt_ bii.1
      have ii1 : ii < (251 : Int32) := own_lt_ bii.2
      have iiN : ii.toNatClampNeg < 251 := by have := nat_of ii0; omega
      obtain ⟨jj, hjj⟩ : ∃ z : Int32, z = ((p4 &&& (2147483647 : Int32)) % (251 : Int32)) := ⟨_, rfl⟩
      rw [← hjj]
      have bjj : 0 ≤ jj.toInt ∧ jj.toInt < 251 := by rw [hjj]; exact own_md p4 (251 : Int32) 251 (by decide) (by decide)
      have jj0 : ¬ jj < 0 := own_nlt_ bjj.1
      have jj1 : jj < (251 : Int32) := own_lt_ bjj.2
      have jjN : jj.toNatClampNeg < 251 := by have := nat_of jj0; omega
      refine s_aload (pc' := 63) X34.here hx (hb hby at_61) rfl rfl rfl ?_
      refine s_iload (pc' := 65) X34.here hx (hb hby at_63) rfl rfl ?_
      refine s_iloadN (pc' := 66) X34.here hx (hb hby at_65) rfl rfl ?_
      refine s_i2b (pc' := 67) X34.here hx (hb hby at_66) rfl ?_
      refine s_putB (pc' := 68) X34 hx hZ rfl Vb ⟨ii0, ii1⟩ ii.toNatClampNeg rfl (by rw [own_len1]; exact iiN) (hb hby at_67) rfl fun T39 hp39 X39 e39 W39 Vw39 => ?_
      have V40 : Arv Z hp39 ba kb .byte (251 : Int32) (own_L1.set ii.toNatClampNeg (.int (nar .byte (p1.toInt8.toInt32)))) (.int (0 : Int32)) := Vw39
      have N39 := Fr.snoc X39 N34 g_ba
      have O41 := O37.wr W39 g_ba
      replace hk := Nat.le_trans hk (Keep.of_wr W39).1
      have Z42 : n0 ≤ hp39.size := Nat.le_trans Z38 (Keep.of_wr W39).1
      refine s_aload (pc' := 70) X39.here hx (hb hby at_68) rfl rfl rfl ?_
      refine s_iload (pc' := 72) X39.here hx (hb hby at_70) rfl rfl ?_
      refine s_iloadN (pc' := 73) X39.here hx (hb hby at_72) rfl rfl ?_
      refine s_i2b (pc' := 74) X39.here hx (hb hby at_73) rfl ?_
      refine s_putB (pc' := 75) X39 hx hZ e39 V40 ⟨jj0, jj1⟩ jj.toNatClampNeg rfl (by rw [List.length_set, own_len1]; exact jjN) (hb hby at_74) rfl fun T43 hp43 X43 e43 W43 Vw43 => ?_
      have V44 : Arv Z hp43 ba kb .byte (251 : Int32) ((own_L1.set ii.toNatClampNeg (.int (nar .byte (p1.toInt8.toInt32)))).set jj.toNatClampNeg (.int (nar .byte (p2.toInt8.toInt32)))) (.int (0 : Int32)) := Vw43
      have N43 := Fr.snoc X43 N39 g_ba
      have O45 := O41.wr W43 g_ba
      replace hk := Nat.le_trans hk (Keep.of_wr W43).1
      have Z46 : n0 ≤ hp43.size := Nat.le_trans Z42 (Keep.of_wr W43).1
      refine s_iload (pc' := 77) X43.here hx (hb hby at_75) rfl rfl ?_
      refine s_iload (pc' := 79) X43.here hx (hb hby at_77) rfl rfl ?_
      by_cases hij : ii = jj
      · refine s_icmpNo (pc' := 82) X43.here hx (hb hby at_79) (teq hij).2 rfl ?_
        refine s_iloadN (pc' := 83) X43.here hx (hb hby at_82) rfl rfl ?_
        refine s_callS (pc' := 86) (W := 0) X43 hx hZ  hown (hw _ (List.mem_of_getElem? (i := 5) rfl)) (hw _ (List.mem_of_getElem? (i := 6) rfl)) (hw _ (List.mem_of_getElem? (i := 7) rfl)) (hw _ (List.mem_of_getElem? (i := 8) rfl)) (by decide) e43 (own_ok l Z a0 hw [] p2 hp43 n0 Z46 ) (by rw [hml]; rfl) [(.int p2)] [] rfl (lenOf own_pd7 rfl) rfl (Nat.le_of_eq rfl) (by decide) (by decide) (by decide) (by decide) rfl (hb hby at_83) fun T47 v47 Lc47 X47 hQ47 => ?_
        obtain ⟨rfl, Nq47, eh47⟩ := hQ47
        have N47 := Fr.app N43 Nq47
        show Ends p.tables e below (T47.setTop (mkF m 86 #[.val (.int p0), .val (.int p1), .val (.int p2), .val (.int p3), .val (.int p4), .val (.int m5), .val (.int n6), .val (.int (1 : Int32)), .val (.ref ba), .val (.int (251 : Int32)), .val (.int ii), .val (.int jj), .unset, .unset] [(.int (own_okr p2))])) _
        refine s_goto (pc' := 108) X47.here hx (hb hby at_86) (by decide) (by decide) ?_
        refine s_istore (pc' := 110) X47.here hx (l' := #[.val (.int p0), .val (.int p1), .val (.int p2), .val (.int p3), .val (.int p4), .val (.int m5), .val (.int n6), .val (.int (1 : Int32)), .val (.ref ba), .val (.int (251 : Int32)), .val (.int ii), .val (.int jj), .val (.int (own_okr p2)), .unset]) (hb hby at_108) rfl rfl ?_
        refine s_iload (pc' := 112) X47.here hx (hb hby at_110) rfl rfl ?_
        refine s_sipush (pc' := 115) X47.here hx (v := (250 : Int32)) (hb hby at_112) rfl rfl ?_
        have hk48 : (250 : Int32) < (251 : Int32) := by decide
        refine s_icmpYes (pc' := 127) X47.here hx (hb hby at_115) (tlt hk48).2.2.1 (by decide) (by decide) ?_
        refine s_iconst (pc' := 128) X47.here hx (v := (0 : Int32)) (hb hby at_127) rfl rfl ?_
        refine s_istore (pc' := 130) X47.here hx (l' := #[.val (.int p0), .val (.int p1), .val (.int p2), .val (.int p3), .val (.int p4), .val (.int m5), .val (.int n6), .val (.int (1 : Int32)), .val (.ref ba), .val (.int (251 : Int32)), .val (.int ii), .val (.int jj), .val (.int (own_okr p2)), .val (.int (0 : Int32))]) (hb hby at_128) rfl rfl ?_
        refine s_aload (pc' := 132) X47.here hx (hb hby at_130) rfl rfl rfl ?_
        obtain ⟨r, r01, hrr⟩ := own_pick (own_V (251 : Int32) ((own_L1.set ii.toNatClampNeg (.int (nar .byte (p1.toInt8.toInt32)))).set jj.toNatClampNeg (.int (nar .byte (p2.toInt8.toInt32)))))
        refine s_callS (pc' := 135) (W := 0) X47 hx hZ  hown (hw _ (List.mem_of_getElem? (i := 1) rfl)) (hw _ (List.mem_of_getElem? (i := 2) rfl)) (hw _ (List.mem_of_getElem? (i := 3) rfl)) (hw _ (List.mem_of_getElem? (i := 4) rfl)) (by decide) eh47 (own_isv l Z a0 hw [] ba kb (251 : Int32) ((own_L1.set ii.toNatClampNeg (.int (nar .byte (p1.toInt8.toInt32)))).set jj.toNatClampNeg (.int (nar .byte (p2.toInt8.toInt32)))) r hp43 n0 Z46 V44 r01 hrr) (by rw [hml]; rfl) [(.ref ba)] [] rfl (lenOf own_pd8 rfl) rfl (Nat.le_of_eq rfl) (by decide) (by decide) (by decide) (by decide) rfl (hb hby at_132) fun T49 v49 Lc49 X49 hQ49 => ?_
        obtain ⟨rfl, Nq49, eh49⟩ := hQ49
        have N49 := Fr.app N47 Nq49
        show Ends p.tables e below (T49.setTop (mkF m 135 #[.val (.int p0), .val (.int p1), .val (.int p2), .val (.int p3), .val (.int p4), .val (.int m5), .val (.int n6), .val (.int (1 : Int32)), .val (.ref ba), .val (.int (251 : Int32)), .val (.int ii), .val (.int jj), .val (.int (own_okr p2)), .val (.int (0 : Int32))] [(.int r)])) _
        refine s_iload (pc' := 137) X49.here hx (hb hby at_135) rfl rfl ?_
        have hk50 : r = (0 : Int32) := own_r0 r01 hrr (fun q => absurd (show (250 : Int32) < (251 : Int32) by decide) q.2.1)
        refine s_icmpNo (pc' := 140) X49.here hx (hb hby at_137) (teq hk50).2 rfl ?_
        refine s_iconst (pc' := 141) X49.here hx (v := (1 : Int32)) (hb hby at_140) rfl rfl ?_
        refine s_goto (pc' := 145) X49.here hx (hb hby at_141) (by decide) (by decide) ?_
        obtain ⟨fs, hr, hrun, hended, hRW⟩ := X49.leaveW hS (show _ ≤ T49.heap.size from by rw [eh49]; exact hk) (v := some (.int (1 : Int32))) (fun h => by rw [Bd.returns] at h; cases h)
        refine ⟨_, _, retN X49 hx (t := .boolean) Bd.returns (by simp) (hb hby at_145) hr, hrun, hended, _, _, rfl, ?_, own_rwm hRW (by decide) (by decide)⟩
        show own_rm0_Q Z p0 p1 p2 p3 p4 ci cu cs h0 n0 _ T49.heap _
        rw [eh49]
        exact ⟨rfl, N49⟩
      · refine s_icmpYes (pc' := 89) X43.here hx (hb hby at_79) (feq hij).2 (by decide) (by decide) ?_
        have hijN : ii.toNatClampNeg ≠ jj.toNatClampNeg := fun q => hij (Int32.toInt_inj.mp (by have q1 := nat_of ii0; have q2 := nat_of jj0; omega))
        refine s_iloadN (pc' := 90) X43.here hx (hb hby at_89) rfl rfl ?_
        refine s_callS (pc' := 93) (W := 0) X43 hx hZ  hown (hw _ (List.mem_of_getElem? (i := 5) rfl)) (hw _ (List.mem_of_getElem? (i := 6) rfl)) (hw _ (List.mem_of_getElem? (i := 7) rfl)) (hw _ (List.mem_of_getElem? (i := 8) rfl)) (by decide) e43 (own_ok l Z a0 hw [] p1 hp43 n0 Z46 ) (by rw [hml]; rfl) [(.int p1)] [] rfl (lenOf own_pd7 rfl) rfl (Nat.le_of_eq rfl) (by decide) (by decide) (by decide) (by decide) rfl (hb hby at_90) fun T51 v51 Lc51 X51 hQ51 => ?_
        obtain ⟨rfl, Nq51, eh51⟩ := hQ51
        have N51 := Fr.app N43 Nq51
        show Ends p.tables e below (T51.setTop (mkF m 93 #[.val (.int p0), .val (.int p1), .val (.int p2), .val (.int p3), .val (.int p4), .val (.int m5), .val (.int n6), .val (.int (1 : Int32)), .val (.ref ba), .val (.int (251 : Int32)), .val (.int ii), .val (.int jj), .unset, .unset] [(.int (own_okr p1))])) _
        by_cases hk1 : (own_okr p1) = (0 : Int32)
        · refine s_ifYes (pc' := 107) X51.here hx (hb hby at_93) ((if0 _ _).trans (teq hk1).1) (by decide) (by decide) ?_
          refine s_iconst (pc' := 108) X51.here hx (v := (0 : Int32)) (hb hby at_107) rfl rfl ?_
          refine s_istore (pc' := 110) X51.here hx (l' := #[.val (.int p0), .val (.int p1), .val (.int p2), .val (.int p3), .val (.int p4), .val (.int m5), .val (.int n6), .val (.int (1 : Int32)), .val (.ref ba), .val (.int (251 : Int32)), .val (.int ii), .val (.int jj), .val (.int (0 : Int32)), .unset]) (hb hby at_108) rfl rfl ?_
          refine s_iload (pc' := 112) X51.here hx (hb hby at_110) rfl rfl ?_
          refine s_sipush (pc' := 115) X51.here hx (v := (250 : Int32)) (hb hby at_112) rfl rfl ?_
          have hk52 : (250 : Int32) < (251 : Int32) := by decide
          refine s_icmpYes (pc' := 127) X51.here hx (hb hby at_115) (tlt hk52).2.2.1 (by decide) (by decide) ?_
          refine s_iconst (pc' := 128) X51.here hx (v := (0 : Int32)) (hb hby at_127) rfl rfl ?_
          refine s_istore (pc' := 130) X51.here hx (l' := #[.val (.int p0), .val (.int p1), .val (.int p2), .val (.int p3), .val (.int p4), .val (.int m5), .val (.int n6), .val (.int (1 : Int32)), .val (.ref ba), .val (.int (251 : Int32)), .val (.int ii), .val (.int jj), .val (.int (0 : Int32)), .val (.int (0 : Int32))]) (hb hby at_128) rfl rfl ?_
          refine s_aload (pc' := 132) X51.here hx (hb hby at_130) rfl rfl rfl ?_
          obtain ⟨r, r01, hrr⟩ := own_pick (own_V (251 : Int32) ((own_L1.set ii.toNatClampNeg (.int (nar .byte (p1.toInt8.toInt32)))).set jj.toNatClampNeg (.int (nar .byte (p2.toInt8.toInt32)))))
          refine s_callS (pc' := 135) (W := 0) X51 hx hZ  hown (hw _ (List.mem_of_getElem? (i := 1) rfl)) (hw _ (List.mem_of_getElem? (i := 2) rfl)) (hw _ (List.mem_of_getElem? (i := 3) rfl)) (hw _ (List.mem_of_getElem? (i := 4) rfl)) (by decide) eh51 (own_isv l Z a0 hw [] ba kb (251 : Int32) ((own_L1.set ii.toNatClampNeg (.int (nar .byte (p1.toInt8.toInt32)))).set jj.toNatClampNeg (.int (nar .byte (p2.toInt8.toInt32)))) r hp43 n0 Z46 V44 r01 hrr) (by rw [hml]; rfl) [(.ref ba)] [] rfl (lenOf own_pd8 rfl) rfl (Nat.le_of_eq rfl) (by decide) (by decide) (by decide) (by decide) rfl (hb hby at_132) fun T53 v53 Lc53 X53 hQ53 => ?_
          obtain ⟨rfl, Nq53, eh53⟩ := hQ53
          have N53 := Fr.app N51 Nq53
          show Ends p.tables e below (T53.setTop (mkF m 135 #[.val (.int p0), .val (.int p1), .val (.int p2), .val (.int p3), .val (.int p4), .val (.int m5), .val (.int n6), .val (.int (1 : Int32)), .val (.ref ba), .val (.int (251 : Int32)), .val (.int ii), .val (.int jj), .val (.int (0 : Int32)), .val (.int (0 : Int32))] [(.int r)])) _
          refine s_iload (pc' := 137) X53.here hx (hb hby at_135) rfl rfl ?_
          have hk54 : r = (0 : Int32) := own_r0 r01 hrr (fun q => absurd (show (250 : Int32) < (251 : Int32) by decide) q.2.1)
          refine s_icmpNo (pc' := 140) X53.here hx (hb hby at_137) (teq hk54).2 rfl ?_
          refine s_iconst (pc' := 141) X53.here hx (v := (1 : Int32)) (hb hby at_140) rfl rfl ?_
          refine s_goto (pc' := 145) X53.here hx (hb hby at_141) (by decide) (by decide) ?_
          obtain ⟨fs, hr, hrun, hended, hRW⟩ := X53.leaveW hS (show _ ≤ T53.heap.size from by rw [eh53]; exact hk) (v := some (.int (1 : Int32))) (fun h => by rw [Bd.returns] at h; cases h)
          refine ⟨_, _, retN X53 hx (t := .boolean) Bd.returns (by simp) (hb hby at_145) hr, hrun, hended, _, _, rfl, ?_, own_rwm hRW (by decide) (by decide)⟩
          show own_rm0_Q Z p0 p1 p2 p3 p4 ci cu cs h0 n0 _ T53.heap _
          rw [eh53]
          exact ⟨rfl, N53⟩
        · refine s_ifNo (pc' := 96) X51.here hx (hb hby at_93) ((if0 _ _).trans (feq hk1).1) rfl ?_
          refine s_iloadN (pc' := 97) X51.here hx (hb hby at_96) rfl rfl ?_
          refine s_callS (pc' := 100) (W := 0) X51 hx hZ  hown (hw _ (List.mem_of_getElem? (i := 5) rfl)) (hw _ (List.mem_of_getElem? (i := 6) rfl)) (hw _ (List.mem_of_getElem? (i := 7) rfl)) (hw _ (List.mem_of_getElem? (i := 8) rfl)) (by decide) eh51 (own_ok l Z a0 hw [] p2 hp43 n0 Z46 ) (by rw [hml]; rfl) [(.int p2)] [] rfl (lenOf own_pd7 rfl) rfl (Nat.le_of_eq rfl) (by decide) (by decide) (by decide) (by decide) rfl (hb hby at_97) fun T55 v55 Lc55 X55 hQ55 => ?_
          obtain ⟨rfl, Nq55, eh55⟩ := hQ55
          have N55 := Fr.app N51 Nq55
          show Ends p.tables e below (T55.setTop (mkF m 100 #[.val (.int p0), .val (.int p1), .val (.int p2), .val (.int p3), .val (.int p4), .val (.int m5), .val (.int n6), .val (.int (1 : Int32)), .val (.ref ba), .val (.int (251 : Int32)), .val (.int ii), .val (.int jj), .unset, .unset] [(.int (own_okr p2))])) _
          by_cases hk2 : (own_okr p2) = (0 : Int32)
          · refine s_ifYes (pc' := 107) X55.here hx (hb hby at_100) ((if0 _ _).trans (teq hk2).1) (by decide) (by decide) ?_
            refine s_iconst (pc' := 108) X55.here hx (v := (0 : Int32)) (hb hby at_107) rfl rfl ?_
            refine s_istore (pc' := 110) X55.here hx (l' := #[.val (.int p0), .val (.int p1), .val (.int p2), .val (.int p3), .val (.int p4), .val (.int m5), .val (.int n6), .val (.int (1 : Int32)), .val (.ref ba), .val (.int (251 : Int32)), .val (.int ii), .val (.int jj), .val (.int (0 : Int32)), .unset]) (hb hby at_108) rfl rfl ?_
            refine s_iload (pc' := 112) X55.here hx (hb hby at_110) rfl rfl ?_
            refine s_sipush (pc' := 115) X55.here hx (v := (250 : Int32)) (hb hby at_112) rfl rfl ?_
            have hk56 : (250 : Int32) < (251 : Int32) := by decide
            refine s_icmpYes (pc' := 127) X55.here hx (hb hby at_115) (tlt hk56).2.2.1 (by decide) (by decide) ?_
            refine s_iconst (pc' := 128) X55.here hx (v := (0 : Int32)) (hb hby at_127) rfl rfl ?_
            refine s_istore (pc' := 130) X55.here hx (l' := #[.val (.int p0), .val (.int p1), .val (.int p2), .val (.int p3), .val (.int p4), .val (.int m5), .val (.int n6), .val (.int (1 : Int32)), .val (.ref ba), .val (.int (251 : Int32)), .val (.int ii), .val (.int jj), .val (.int (0 : Int32)), .val (.int (0 : Int32))]) (hb hby at_128) rfl rfl ?_
            refine s_aload (pc' := 132) X55.here hx (hb hby at_130) rfl rfl rfl ?_
            obtain ⟨r, r01, hrr⟩ := own_pick (own_V (251 : Int32) ((own_L1.set ii.toNatClampNeg (.int (nar .byte (p1.toInt8.toInt32)))).set jj.toNatClampNeg (.int (nar .byte (p2.toInt8.toInt32)))))
            refine s_callS (pc' := 135) (W := 0) X55 hx hZ  hown (hw _ (List.mem_of_getElem? (i := 1) rfl)) (hw _ (List.mem_of_getElem? (i := 2) rfl)) (hw _ (List.mem_of_getElem? (i := 3) rfl)) (hw _ (List.mem_of_getElem? (i := 4) rfl)) (by decide) eh55 (own_isv l Z a0 hw [] ba kb (251 : Int32) ((own_L1.set ii.toNatClampNeg (.int (nar .byte (p1.toInt8.toInt32)))).set jj.toNatClampNeg (.int (nar .byte (p2.toInt8.toInt32)))) r hp43 n0 Z46 V44 r01 hrr) (by rw [hml]; rfl) [(.ref ba)] [] rfl (lenOf own_pd8 rfl) rfl (Nat.le_of_eq rfl) (by decide) (by decide) (by decide) (by decide) rfl (hb hby at_132) fun T57 v57 Lc57 X57 hQ57 => ?_
            obtain ⟨rfl, Nq57, eh57⟩ := hQ57
            have N57 := Fr.app N55 Nq57
            show Ends p.tables e below (T57.setTop (mkF m 135 #[.val (.int p0), .val (.int p1), .val (.int p2), .val (.int p3), .val (.int p4), .val (.int m5), .val (.int n6), .val (.int (1 : Int32)), .val (.ref ba), .val (.int (251 : Int32)), .val (.int ii), .val (.int jj), .val (.int (0 : Int32)), .val (.int (0 : Int32))] [(.int r)])) _
            refine s_iload (pc' := 137) X57.here hx (hb hby at_135) rfl rfl ?_
            have hk58 : r = (0 : Int32) := own_r0 r01 hrr (fun q => absurd (show (250 : Int32) < (251 : Int32) by decide) q.2.1)
            refine s_icmpNo (pc' := 140) X57.here hx (hb hby at_137) (teq hk58).2 rfl ?_
            refine s_iconst (pc' := 141) X57.here hx (v := (1 : Int32)) (hb hby at_140) rfl rfl ?_
            refine s_goto (pc' := 145) X57.here hx (hb hby at_141) (by decide) (by decide) ?_
            obtain ⟨fs, hr, hrun, hended, hRW⟩ := X57.leaveW hS (show _ ≤ T57.heap.size from by rw [eh57]; exact hk) (v := some (.int (1 : Int32))) (fun h => by rw [Bd.returns] at h; cases h)
            refine ⟨_, _, retN X57 hx (t := .boolean) Bd.returns (by simp) (hb hby at_145) hr, hrun, hended, _, _, rfl, ?_, own_rwm hRW (by decide) (by decide)⟩
            show own_rm0_Q Z p0 p1 p2 p3 p4 ci cu cs h0 n0 _ T57.heap _
            rw [eh57]
            exact ⟨rfl, N57⟩
          · refine s_ifNo (pc' := 103) X55.here hx (hb hby at_100) ((if0 _ _).trans (feq hk2).1) rfl ?_
            refine s_iconst (pc' := 104) X55.here hx (v := (1 : Int32)) (hb hby at_103) rfl rfl ?_
            refine s_goto (pc' := 108) X55.here hx (hb hby at_104) (by decide) (by decide) ?_
            refine s_istore (pc' := 110) X55.here hx (l' := #[.val (.int p0), .val (.int p1), .val (.int p2), .val (.int p3), .val (.int p4), .val (.int m5), .val (.int n6), .val (.int (1 : Int32)), .val (.ref ba), .val (.int (251 : Int32)), .val (.int ii), .val (.int jj), .val (.int (1 : Int32)), .unset]) (hb hby at_108) rfl rfl ?_
            refine s_iload (pc' := 112) X55.here hx (hb hby at_110) rfl rfl ?_
            refine s_sipush (pc' := 115) X55.here hx (v := (250 : Int32)) (hb hby at_112) rfl rfl ?_
            have hk59 : (250 : Int32) < (251 : Int32) := by decide
            refine s_icmpYes (pc' := 127) X55.here hx (hb hby at_115) (tlt hk59).2.2.1 (by decide) (by decide) ?_
            refine s_iconst (pc' := 128) X55.here hx (v := (0 : Int32)) (hb hby at_127) rfl rfl ?_
            refine s_istore (pc' := 130) X55.here hx (l' := #[.val (.int p0), .val (.int p1), .val (.int p2), .val (.int p3), .val (.int p4), .val (.int m5), .val (.int n6), .val (.int (1 : Int32)), .val (.ref ba), .val (.int (251 : Int32)), .val (.int ii), .val (.int jj), .val (.int (1 : Int32)), .val (.int (0 : Int32))]) (hb hby at_128) rfl rfl ?_
            refine s_aload (pc' := 132) X55.here hx (hb hby at_130) rfl rfl rfl ?_
            obtain ⟨r, r01, hrr⟩ := own_pick (own_V (251 : Int32) ((own_L1.set ii.toNatClampNeg (.int (nar .byte (p1.toInt8.toInt32)))).set jj.toNatClampNeg (.int (nar .byte (p2.toInt8.toInt32)))))
            refine s_callS (pc' := 135) (W := 0) X55 hx hZ  hown (hw _ (List.mem_of_getElem? (i := 1) rfl)) (hw _ (List.mem_of_getElem? (i := 2) rfl)) (hw _ (List.mem_of_getElem? (i := 3) rfl)) (hw _ (List.mem_of_getElem? (i := 4) rfl)) (by decide) eh55 (own_isv l Z a0 hw [] ba kb (251 : Int32) ((own_L1.set ii.toNatClampNeg (.int (nar .byte (p1.toInt8.toInt32)))).set jj.toNatClampNeg (.int (nar .byte (p2.toInt8.toInt32)))) r hp43 n0 Z46 V44 r01 hrr) (by rw [hml]; rfl) [(.ref ba)] [] rfl (lenOf own_pd8 rfl) rfl (Nat.le_of_eq rfl) (by decide) (by decide) (by decide) (by decide) rfl (hb hby at_132) fun T60 v60 Lc60 X60 hQ60 => ?_
            obtain ⟨rfl, Nq60, eh60⟩ := hQ60
            have N60 := Fr.app N55 Nq60
            show Ends p.tables e below (T60.setTop (mkF m 135 #[.val (.int p0), .val (.int p1), .val (.int p2), .val (.int p3), .val (.int p4), .val (.int m5), .val (.int n6), .val (.int (1 : Int32)), .val (.ref ba), .val (.int (251 : Int32)), .val (.int ii), .val (.int jj), .val (.int (1 : Int32)), .val (.int (0 : Int32))] [(.int r)])) _
            refine s_iload (pc' := 137) X60.here hx (hb hby at_135) rfl rfl ?_
            have hk61 : r = (0 : Int32) := own_r0 r01 hrr (fun q => absurd (show (250 : Int32) < (251 : Int32) by decide) q.2.1)
            refine s_icmpNo (pc' := 140) X60.here hx (hb hby at_137) (teq hk61).2 rfl ?_
            refine s_iconst (pc' := 141) X60.here hx (v := (1 : Int32)) (hb hby at_140) rfl rfl ?_
            refine s_goto (pc' := 145) X60.here hx (hb hby at_141) (by decide) (by decide) ?_
            obtain ⟨fs, hr, hrun, hended, hRW⟩ := X60.leaveW hS (show _ ≤ T60.heap.size from by rw [eh60]; exact hk) (v := some (.int (1 : Int32))) (fun h => by rw [Bd.returns] at h; cases h)
            refine ⟨_, _, retN X60 hx (t := .boolean) Bd.returns (by simp) (hb hby at_145) hr, hrun, hended, _, _, rfl, ?_, own_rwm hRW (by decide) (by decide)⟩
            show own_rm0_Q Z p0 p1 p2 p3 p4 ci cu cs h0 n0 _ T60.heap _
            rw [eh60]
            exact ⟨rfl, N60⟩
  · refine s_icmpYes (pc' := 146) X0w.here hx (hb hby at_13) (feq hm1).2 (by decide) (by decide) ?_
    refine s_iload (pc' := 148) X0w.here hx (hb hby at_146) rfl rfl ?_
    refine s_iconst (pc' := 149) X0w.here hx (v := (2 : Int32)) (hb hby at_148) rfl rfl ?_
    by_cases hm2 : m5 = (2 : Int32)
    · refine s_icmpNo (pc' := 152) X0w.here hx (hb hby at_149) (teq hm2).2 rfl ?_
      refine s_iload (pc' := 154) X0w.here hx (hb hby at_152) rfl rfl ?_
      refine s_sipush (pc' := 157) X0w.here hx (v := (511 : Int32)) (hb hby at_154) rfl rfl ?_
      refine s_iand (pc' := 158) X0w.here hx (hb hby at_157) rfl ?_
      refine s_istore (pc' := 160) X0w.here hx (l' := #[.val (.int p0), .val (.int p1), .val (.int p2), .val (.int p3), .val (.int p4), .val (.int m5), .val (.int n6), .val (.int (n6 &&& (511 : Int32))), .unset, .unset, .unset, .unset, .unset, .unset]) (hb hby at_158) rfl rfl ?_
      obtain ⟨z, hz⟩ : ∃ z : Int32, z = (n6 &&& (511 : Int32)) := ⟨_, rfl⟩
      rw [← hz]
      have hz2 := own_511 n6 z hz
      have zero : (0 : Int32).toInt = 0 := by decide
      have one : (1 : Int32).toInt = 1 := by decide
      refine s_iload (pc' := 162) X0w.here hx (hb hby at_160) rfl rfl ?_
      refine s_newP (pc' := 164) (cap := 511) X0w hx hZ (hw _ (List.mem_of_getElem? (i := 0) rfl)) e0 (hb hby at_162) hz2.1 hz2.2 (by decide) (by decide) (by decide) rfl fun T62 hp62 X62 e62 ka62 E62 ba gq62 A62 => ?_
      have g_ba : n0 ≤ ba := Nat.le_trans Z0 (Nat.le_of_eq gq62.symm)
      have sf63 := Safe.ext E62 HC0 (Safe.new (Nat.le_of_eq gq62.symm))
      have HR64 := CHr.trans HR0 (CHr.ext E62 HC0)
      have HC65 := CHv.ext E62 HC0
      have O66 := O0.ext E62
      replace hk := Nat.le_trans hk E62.1
      have Z67 : n0 ≤ hp62.size := Nat.le_trans Z0 E62.1
      have V68 : Arv Z hp62 ba ka62 .byte z [(.int (0 : Int32))] (.int (0 : Int32)) := (Arv.new A62 hz2.1).pad (pad_rep [] (.int (0 : Int32)) 1)
      refine s_astore (pc' := 166) X62.here hx (l' := #[.val (.int p0), .val (.int p1), .val (.int p2), .val (.int p3), .val (.int p4), .val (.int m5), .val (.int n6), .val (.int z), .val (.ref ba), .unset, .unset, .unset, .unset, .unset]) (hb hby at_164) rfl rfl rfl ?_
      refine s_iload (pc' := 168) X62.here hx (hb hby at_166) rfl rfl ?_
      by_cases hzp : (0 : Int32) < z
      · refine s_ifNo (pc' := 171) X62.here hx (hb hby at_168) ((if0 _ _).trans (tlt hzp).2.2.2) rfl ?_
        refine s_aload (pc' := 173) X62.here hx (hb hby at_171) rfl rfl rfl ?_
        refine s_iconst (pc' := 174) X62.here hx (v := (0 : Int32)) (hb hby at_173) rfl rfl ?_
        refine s_iloadN (pc' := 175) X62.here hx (hb hby at_174) rfl rfl ?_
        refine s_i2b (pc' := 176) X62.here hx (hb hby at_175) rfl ?_
        refine s_putB (pc' := 177) X62 hx hZ e62 V68 ⟨by decide, hzp⟩ 0 rfl (Nat.le_of_ble_eq_true rfl) (hb hby at_176) rfl fun T72 hp72 X72 e72 W72 Vw72 => ?_
        have V73 : Arv Z hp72 ba ka62 .byte z [(.int (nar .byte (p1.toInt8.toInt32)))] (.int (0 : Int32)) := Vw72
        have N72 := Fr.snoc X72 N0 g_ba
        have sf74 := Safe.wr W72 sf63 HC65 sf63
        have HR75 := CHr.trans HR64 (CHr.wr W72 sf63 HC65)
        have HC76 := CHv.wr W72 sf63 HC65
        have O77 := O66.wr W72 g_ba
        replace hk := Nat.le_trans hk (Keep.of_wr W72).1
        have Z78 : n0 ≤ hp72.size := Nat.le_trans Z67 (Keep.of_wr W72).1
        refine s_iload (pc' := 179) X72.here hx (hb hby at_177) rfl rfl ?_
        refine s_iconst (pc' := 180) X72.here hx (v := (1 : Int32)) (hb hby at_179) rfl rfl ?_
        by_cases hz1 : z = (1 : Int32)
        · refine s_icmpNo (pc' := 183) X72.here hx (hb hby at_180) (teq hz1).2 rfl ?_
          refine s_iloadN (pc' := 184) X72.here hx (hb hby at_183) rfl rfl ?_
          refine s_callS (pc' := 187) (W := 0) X72 hx hZ  hown (hw _ (List.mem_of_getElem? (i := 5) rfl)) (hw _ (List.mem_of_getElem? (i := 6) rfl)) (hw _ (List.mem_of_getElem? (i := 7) rfl)) (hw _ (List.mem_of_getElem? (i := 8) rfl)) (by decide) e72 (own_ok l Z a0 hw [] p1 hp72 n0 Z78 ) (by rw [hml]; rfl) [(.int p1)] [] rfl (lenOf own_pd7 rfl) rfl (Nat.le_of_eq rfl) (by decide) (by decide) (by decide) (by decide) rfl (hb hby at_184) fun T81 v81 Lc81 X81 hQ81 => ?_
          obtain ⟨rfl, Nq81, eh81⟩ := hQ81
          have N81 := Fr.app N72 Nq81
          show Ends p.tables e below (T81.setTop (mkF m 187 #[.val (.int p0), .val (.int p1), .val (.int p2), .val (.int p3), .val (.int p4), .val (.int m5), .val (.int n6), .val (.int z), .val (.ref ba), .unset, .unset, .unset, .unset, .unset] [(.int (own_okr p1))])) _
          by_cases hk1 : (own_okr p1) = (0 : Int32)
          · refine s_ifYes (pc' := 194) X81.here hx (hb hby at_187) ((if0 _ _).trans (teq hk1).1) (by decide) (by decide) ?_
            refine s_iconst (pc' := 195) X81.here hx (v := (0 : Int32)) (hb hby at_194) rfl rfl ?_
            refine s_istore (pc' := 197) X81.here hx (l' := #[.val (.int p0), .val (.int p1), .val (.int p2), .val (.int p3), .val (.int p4), .val (.int m5), .val (.int n6), .val (.int z), .val (.ref ba), .val (.int (0 : Int32)), .unset, .unset, .unset, .unset]) (hb hby at_195) rfl rfl ?_
            refine s_aload (pc' := 199) X81.here hx (hb hby at_197) rfl rfl rfl ?_
            obtain ⟨r, r01, hrr⟩ := own_pick (own_V z [(.int (nar .byte (p1.toInt8.toInt32)))])
            refine s_callS (pc' := 202) (W := 0) X81 hx hZ  hown (hw _ (List.mem_of_getElem? (i := 1) rfl)) (hw _ (List.mem_of_getElem? (i := 2) rfl)) (hw _ (List.mem_of_getElem? (i := 3) rfl)) (hw _ (List.mem_of_getElem? (i := 4) rfl)) (by decide) eh81 (own_isv l Z a0 hw [] ba ka62 z [(.int (nar .byte (p1.toInt8.toInt32)))] r hp72 n0 Z78 V73 r01 hrr) (by rw [hml]; rfl) [(.ref ba)] [] rfl (lenOf own_pd8 rfl) rfl (Nat.le_of_eq rfl) (by decide) (by decide) (by decide) (by decide) rfl (hb hby at_199) fun T82 v82 Lc82 X82 hQ82 => ?_
            obtain ⟨rfl, Nq82, eh82⟩ := hQ82
            have N82 := Fr.app N81 Nq82
            show Ends p.tables e below (T82.setTop (mkF m 202 #[.val (.int p0), .val (.int p1), .val (.int p2), .val (.int p3), .val (.int p4), .val (.int m5), .val (.int n6), .val (.int z), .val (.ref ba), .val (.int (0 : Int32)), .unset, .unset, .unset, .unset] [(.int r)])) _
            refine s_iload (pc' := 204) X82.here hx (hb hby at_202) rfl rfl ?_
            have hk83 : r = (0 : Int32) := own_r0 r01 hrr (fun q => own_gok0 hk1 (q.2.2 0 (by rw [hz1]; decide)))
            refine s_icmpNo (pc' := 207) X82.here hx (hb hby at_204) (teq hk83).2 rfl ?_
            refine s_iconst (pc' := 208) X82.here hx (v := (1 : Int32)) (hb hby at_207) rfl rfl ?_
            refine s_goto (pc' := 212) X82.here hx (hb hby at_208) (by decide) (by decide) ?_
            obtain ⟨fs, hr, hrun, hended, hRW⟩ := X82.leaveW hS (show _ ≤ T82.heap.size from by rw [eh82]; exact hk) (v := some (.int (1 : Int32))) (fun h => by rw [Bd.returns] at h; cases h)
            refine ⟨_, _, retN X82 hx (t := .boolean) Bd.returns (by simp) (hb hby at_212) hr, hrun, hended, _, _, rfl, ?_, own_rwm hRW (by decide) (by decide)⟩
            show own_rm0_Q Z p0 p1 p2 p3 p4 ci cu cs h0 n0 _ T82.heap _
            rw [eh82]
            exact ⟨rfl, N82⟩
          · refine s_ifNo (pc' := 190) X81.here hx (hb hby at_187) ((if0 _ _).trans (feq hk1).1) rfl ?_
            refine s_iconst (pc' := 191) X81.here hx (v := (1 : Int32)) (hb hby at_190) rfl rfl ?_
            refine s_goto (pc' := 195) X81.here hx (hb hby at_191) (by decide) (by decide) ?_
            refine s_istore (pc' := 197) X81.here hx (l' := #[.val (.int p0), .val (.int p1), .val (.int p2), .val (.int p3), .val (.int p4), .val (.int m5), .val (.int n6), .val (.int z), .val (.ref ba), .val (.int (1 : Int32)), .unset, .unset, .unset, .unset]) (hb hby at_195) rfl rfl ?_
            refine s_aload (pc' := 199) X81.here hx (hb hby at_197) rfl rfl rfl ?_
            obtain ⟨r, r01, hrr⟩ := own_pick (own_V z [(.int (nar .byte (p1.toInt8.toInt32)))])
            refine s_callS (pc' := 202) (W := 0) X81 hx hZ  hown (hw _ (List.mem_of_getElem? (i := 1) rfl)) (hw _ (List.mem_of_getElem? (i := 2) rfl)) (hw _ (List.mem_of_getElem? (i := 3) rfl)) (hw _ (List.mem_of_getElem? (i := 4) rfl)) (by decide) eh81 (own_isv l Z a0 hw [] ba ka62 z [(.int (nar .byte (p1.toInt8.toInt32)))] r hp72 n0 Z78 V73 r01 hrr) (by rw [hml]; rfl) [(.ref ba)] [] rfl (lenOf own_pd8 rfl) rfl (Nat.le_of_eq rfl) (by decide) (by decide) (by decide) (by decide) rfl (hb hby at_199) fun T84 v84 Lc84 X84 hQ84 => ?_
            obtain ⟨rfl, Nq84, eh84⟩ := hQ84
            have N84 := Fr.app N81 Nq84
            show Ends p.tables e below (T84.setTop (mkF m 202 #[.val (.int p0), .val (.int p1), .val (.int p2), .val (.int p3), .val (.int p4), .val (.int m5), .val (.int n6), .val (.int z), .val (.ref ba), .val (.int (1 : Int32)), .unset, .unset, .unset, .unset] [(.int r)])) _
            refine s_iload (pc' := 204) X84.here hx (hb hby at_202) rfl rfl ?_
            have hk85 : r = (1 : Int32) := hrr.mpr (by rw [hz1]; exact (own_Vl rfl (by decide) (by decide)).mpr (fun v hv => by rw [List.mem_singleton.mp hv]; exact (own_gok _).mpr hk1))
            refine s_icmpNo (pc' := 207) X84.here hx (hb hby at_204) (teq hk85).2 rfl ?_
            refine s_iconst (pc' := 208) X84.here hx (v := (1 : Int32)) (hb hby at_207) rfl rfl ?_
            refine s_goto (pc' := 212) X84.here hx (hb hby at_208) (by decide) (by decide) ?_
            obtain ⟨fs, hr, hrun, hended, hRW⟩ := X84.leaveW hS (show _ ≤ T84.heap.size from by rw [eh84]; exact hk) (v := some (.int (1 : Int32))) (fun h => by rw [Bd.returns] at h; cases h)
            refine ⟨_, _, retN X84 hx (t := .boolean) Bd.returns (by simp) (hb hby at_212) hr, hrun, hended, _, _, rfl, ?_, own_rwm hRW (by decide) (by decide)⟩
            show own_rm0_Q Z p0 p1 p2 p3 p4 ci cu cs h0 n0 _ T84.heap _
            rw [eh84]
            exact ⟨rfl, N84⟩
        · refine s_icmpYes (pc' := 194) X72.here hx (hb hby at_180) (feq hz1).2 (by decide) (by decide) ?_
          refine s_iconst (pc' := 195) X72.here hx (v := (0 : Int32)) (hb hby at_194) rfl rfl ?_
          refine s_istore (pc' := 197) X72.here hx (l' := #[.val (.int p0), .val (.int p1), .val (.int p2), .val (.int p3), .val (.int p4), .val (.int m5), .val (.int n6), .val (.int z), .val (.ref ba), .val (.int (0 : Int32)), .unset, .unset, .unset, .unset]) (hb hby at_195) rfl rfl ?_
          refine s_aload (pc' := 199) X72.here hx (hb hby at_197) rfl rfl rfl ?_
          obtain ⟨r, r01, hrr⟩ := own_pick (own_V z [(.int (nar .byte (p1.toInt8.toInt32)))])
          refine s_callS (pc' := 202) (W := 0) X72 hx hZ  hown (hw _ (List.mem_of_getElem? (i := 1) rfl)) (hw _ (List.mem_of_getElem? (i := 2) rfl)) (hw _ (List.mem_of_getElem? (i := 3) rfl)) (hw _ (List.mem_of_getElem? (i := 4) rfl)) (by decide) e72 (own_isv l Z a0 hw [] ba ka62 z [(.int (nar .byte (p1.toInt8.toInt32)))] r hp72 n0 Z78 V73 r01 hrr) (by rw [hml]; rfl) [(.ref ba)] [] rfl (lenOf own_pd8 rfl) rfl (Nat.le_of_eq rfl) (by decide) (by decide) (by decide) (by decide) rfl (hb hby at_199) fun T79 v79 Lc79 X79 hQ79 => ?_
          obtain ⟨rfl, Nq79, eh79⟩ := hQ79
          have N79 := Fr.app N72 Nq79
          show Ends p.tables e below (T79.setTop (mkF m 202 #[.val (.int p0), .val (.int p1), .val (.int p2), .val (.int p3), .val (.int p4), .val (.int m5), .val (.int n6), .val (.int z), .val (.ref ba), .val (.int (0 : Int32)), .unset, .unset, .unset, .unset] [(.int r)])) _
          refine s_iload (pc' := 204) X79.here hx (hb hby at_202) rfl rfl ?_
          have hk80 : r = (0 : Int32) := own_r0 r01 hrr (fun q => absurd (show own_gv (.int (0 : Int32)) = true from q.2.2 1 (by have q1 := nat_of hz2.1; have q2 : ¬ z.toInt = (1 : Int32).toInt := (fun q3 => hz1 (Int32.toInt_inj.mp q3)); rw [Int32.lt_iff_toInt_lt] at hzp; omega)) (by decide))
          refine s_icmpNo (pc' := 207) X79.here hx (hb hby at_204) (teq hk80).2 rfl ?_
          refine s_iconst (pc' := 208) X79.here hx (v := (1 : Int32)) (hb hby at_207) rfl rfl ?_
          refine s_goto (pc' := 212) X79.here hx (hb hby at_208) (by decide) (by decide) ?_
          obtain ⟨fs, hr, hrun, hended, hRW⟩ := X79.leaveW hS (show _ ≤ T79.heap.size from by rw [eh79]; exact hk) (v := some (.int (1 : Int32))) (fun h => by rw [Bd.returns] at h; cases h)
          refine ⟨_, _, retN X79 hx (t := .boolean) Bd.returns (by simp) (hb hby at_212) hr, hrun, hended, _, _, rfl, ?_, own_rwm hRW (by decide) (by decide)⟩
          show own_rm0_Q Z p0 p1 p2 p3 p4 ci cu cs h0 n0 _ T79.heap _
          rw [eh79]
          exact ⟨rfl, N79⟩
      · refine s_ifYes (pc' := 177) X62.here hx (hb hby at_168) ((if0 _ _).trans (flt hzp).2.2.2) (by decide) (by decide) ?_
        refine s_iload (pc' := 179) X62.here hx (hb hby at_177) rfl rfl ?_
        refine s_iconst (pc' := 180) X62.here hx (v := (1 : Int32)) (hb hby at_179) rfl rfl ?_
        have hk69 : ¬ (z = (1 : Int32)) := fun q => hzp (by rw [q]; decide)
        refine s_icmpYes (pc' := 194) X62.here hx (hb hby at_180) (feq hk69).2 (by decide) (by decide) ?_
        refine s_iconst (pc' := 195) X62.here hx (v := (0 : Int32)) (hb hby at_194) rfl rfl ?_
        refine s_istore (pc' := 197) X62.here hx (l' := #[.val (.int p0), .val (.int p1), .val (.int p2), .val (.int p3), .val (.int p4), .val (.int m5), .val (.int n6), .val (.int z), .val (.ref ba), .val (.int (0 : Int32)), .unset, .unset, .unset, .unset]) (hb hby at_195) rfl rfl ?_
        refine s_aload (pc' := 199) X62.here hx (hb hby at_197) rfl rfl rfl ?_
        obtain ⟨r, r01, hrr⟩ := own_pick (own_V z [(.int (0 : Int32))])
        refine s_callS (pc' := 202) (W := 0) X62 hx hZ  hown (hw _ (List.mem_of_getElem? (i := 1) rfl)) (hw _ (List.mem_of_getElem? (i := 2) rfl)) (hw _ (List.mem_of_getElem? (i := 3) rfl)) (hw _ (List.mem_of_getElem? (i := 4) rfl)) (by decide) e62 (own_isv l Z a0 hw [] ba ka62 z [(.int (0 : Int32))] r hp62 n0 Z67 V68 r01 hrr) (by rw [hml]; rfl) [(.ref ba)] [] rfl (lenOf own_pd8 rfl) rfl (Nat.le_of_eq rfl) (by decide) (by decide) (by decide) (by decide) rfl (hb hby at_199) fun T70 v70 Lc70 X70 hQ70 => ?_
        obtain ⟨rfl, Nq70, eh70⟩ := hQ70
        have N70 := Fr.app N0 Nq70
        show Ends p.tables e below (T70.setTop (mkF m 202 #[.val (.int p0), .val (.int p1), .val (.int p2), .val (.int p3), .val (.int p4), .val (.int m5), .val (.int n6), .val (.int z), .val (.ref ba), .val (.int (0 : Int32)), .unset, .unset, .unset, .unset] [(.int r)])) _
        refine s_iload (pc' := 204) X70.here hx (hb hby at_202) rfl rfl ?_
        have hk71 : r = (0 : Int32) := own_r0 r01 hrr (fun q => q.1 (Int32.toInt_inj.mp (by rw [Int32.lt_iff_toInt_lt] at hzp; have h0_ := hz2.1; rw [Int32.lt_iff_toInt_lt] at h0_; omega)))
        refine s_icmpNo (pc' := 207) X70.here hx (hb hby at_204) (teq hk71).2 rfl ?_
        refine s_iconst (pc' := 208) X70.here hx (v := (1 : Int32)) (hb hby at_207) rfl rfl ?_
        refine s_goto (pc' := 212) X70.here hx (hb hby at_208) (by decide) (by decide) ?_
        obtain ⟨fs, hr, hrun, hended, hRW⟩ := X70.leaveW hS (show _ ≤ T70.heap.size from by rw [eh70]; exact hk) (v := some (.int (1 : Int32))) (fun h => by rw [Bd.returns] at h; cases h)
        refine ⟨_, _, retN X70 hx (t := .boolean) Bd.returns (by simp) (hb hby at_212) hr, hrun, hended, _, _, rfl, ?_, own_rwm hRW (by decide) (by decide)⟩
        show own_rm0_Q Z p0 p1 p2 p3 p4 ci cu cs h0 n0 _ T70.heap _
        rw [eh70]
        exact ⟨rfl, N70⟩
    · refine s_icmpYes (pc' := 213) X0w.here hx (hb hby at_149) (feq hm2).2 (by decide) (by decide) ?_
      refine s_iload (pc' := 215) X0w.here hx (hb hby at_213) rfl rfl ?_
      refine s_bipush (pc' := 217) X0w.here hx (v := (7 : Int32)) (hb hby at_215) rfl rfl ?_
      refine s_iand (pc' := 218) X0w.here hx (hb hby at_217) rfl ?_
      refine s_iconst (pc' := 219) X0w.here hx (v := (5 : Int32)) (hb hby at_218) rfl rfl ?_
      refine s_irem (pc' := 220) X0w hx (hb hby at_219) (by decide) rfl ?_
      refine s_istore (pc' := 222) X0w.here hx (l' := #[.val (.int p0), .val (.int p1), .val (.int p2), .val (.int p3), .val (.int p4), .val (.int m5), .val (.int n6), .val (.int ((n6 &&& (7 : Int32)) % (5 : Int32))), .unset, .unset, .unset, .unset, .unset, .unset]) (hb hby at_220) rfl rfl ?_
      obtain ⟨z, hz⟩ : ∃ z : Int32, z = ((n6 &&& (7 : Int32)) % (5 : Int32)) := ⟨_, rfl⟩
      rw [← hz]
      have h5 := own_five n6 z hz
      rcases h5 with hq_ | hq_ | hq_ | hq_ | hq_
      · subst hq_
        refine s_iload (pc' := 224) X0w.here hx (hb hby at_222) rfl rfl ?_
        refine s_newP (pc' := 226) (cap := 0) X0w hx hZ (hw _ (List.mem_of_getElem? (i := 0) rfl)) e0 (hb hby at_224) (by decide) (by decide) (by decide) (by decide) (by decide) rfl fun T86 hp86 X86 e86 ka86 E86 ba gq86 A86 => ?_
        have g_ba : n0 ≤ ba := Nat.le_trans Z0 (Nat.le_of_eq gq86.symm)
        have sf87 := Safe.ext E86 HC0 (Safe.new (Nat.le_of_eq gq86.symm))
        have HR88 := CHr.trans HR0 (CHr.ext E86 HC0)
        have HC89 := CHv.ext E86 HC0
        have O90 := O0.ext E86
        replace hk := Nat.le_trans hk E86.1
        have Z91 : n0 ≤ hp86.size := Nat.le_trans Z0 E86.1
        have V92 : Arv Z hp86 ba ka86 .byte (0 : Int32) [] (.int (0 : Int32)) := (Arv.new A86 (by decide)).pad (pad_rep [] (.int (0 : Int32)) 0)
        refine s_astore (pc' := 228) X86.here hx (l' := #[.val (.int p0), .val (.int p1), .val (.int p2), .val (.int p3), .val (.int p4), .val (.int m5), .val (.int n6), .val (.int (0 : Int32)), .val (.ref ba), .unset, .unset, .unset, .unset, .unset]) (hb hby at_226) rfl rfl rfl ?_
        refine s_iload (pc' := 230) X86.here hx (hb hby at_228) rfl rfl ?_
        have hk93 : ¬ ((0 : Int32) < (0 : Int32)) := by decide
        refine s_ifYes (pc' := 239) X86.here hx (hb hby at_230) ((if0 _ _).trans (flt hk93).2.2.2) (by decide) (by decide) ?_
        refine s_iload (pc' := 241) X86.here hx (hb hby at_239) rfl rfl ?_
        refine s_iconst (pc' := 242) X86.here hx (v := (1 : Int32)) (hb hby at_241) rfl rfl ?_
        have hk94 : ¬ ((1 : Int32) < (0 : Int32)) := by decide
        refine s_icmpYes (pc' := 251) X86.here hx (hb hby at_242) (flt hk94).2.2.2 (by decide) (by decide) ?_
        refine s_iload (pc' := 253) X86.here hx (hb hby at_251) rfl rfl ?_
        refine s_iconst (pc' := 254) X86.here hx (v := (2 : Int32)) (hb hby at_253) rfl rfl ?_
        have hk95 : ¬ ((2 : Int32) < (0 : Int32)) := by decide
        refine s_icmpYes (pc' := 263) X86.here hx (hb hby at_254) (flt hk95).2.2.2 (by decide) (by decide) ?_
        refine s_iload (pc' := 265) X86.here hx (hb hby at_263) rfl rfl ?_
        refine s_iconst (pc' := 266) X86.here hx (v := (3 : Int32)) (hb hby at_265) rfl rfl ?_
        have hk96 : ¬ ((3 : Int32) < (0 : Int32)) := by decide
        refine s_icmpYes (pc' := 276) X86.here hx (hb hby at_266) (flt hk96).2.2.2 (by decide) (by decide) ?_
        refine s_iload (pc' := 278) X86.here hx (hb hby at_276) rfl rfl ?_
        refine s_iconst (pc' := 279) X86.here hx (v := (1 : Int32)) (hb hby at_278) rfl rfl ?_
        have hk97 : (0 : Int32) < (1 : Int32) := by decide
        refine s_icmpYes (pc' := 339) X86.here hx (hb hby at_279) (tlt hk97).1 (by decide) (by decide) ?_
        refine s_iconst (pc' := 340) X86.here hx (v := (0 : Int32)) (hb hby at_339) rfl rfl ?_
        refine s_istore (pc' := 342) X86.here hx (l' := #[.val (.int p0), .val (.int p1), .val (.int p2), .val (.int p3), .val (.int p4), .val (.int m5), .val (.int n6), .val (.int (0 : Int32)), .val (.ref ba), .val (.int (0 : Int32)), .unset, .unset, .unset, .unset]) (hb hby at_340) rfl rfl ?_
        refine s_aload (pc' := 344) X86.here hx (hb hby at_342) rfl rfl rfl ?_
        obtain ⟨r, r01, hrr⟩ := own_pick (own_V (0 : Int32) [])
        refine s_callS (pc' := 347) (W := 0) X86 hx hZ  hown (hw _ (List.mem_of_getElem? (i := 1) rfl)) (hw _ (List.mem_of_getElem? (i := 2) rfl)) (hw _ (List.mem_of_getElem? (i := 3) rfl)) (hw _ (List.mem_of_getElem? (i := 4) rfl)) (by decide) e86 (own_isv l Z a0 hw [] ba ka86 (0 : Int32) [] r hp86 n0 Z91 V92 r01 hrr) (by rw [hml]; rfl) [(.ref ba)] [] rfl (lenOf own_pd8 rfl) rfl (Nat.le_of_eq rfl) (by decide) (by decide) (by decide) (by decide) rfl (hb hby at_344) fun T98 v98 Lc98 X98 hQ98 => ?_
        obtain ⟨rfl, Nq98, eh98⟩ := hQ98
        have N98 := Fr.app N0 Nq98
        show Ends p.tables e below (T98.setTop (mkF m 347 #[.val (.int p0), .val (.int p1), .val (.int p2), .val (.int p3), .val (.int p4), .val (.int m5), .val (.int n6), .val (.int (0 : Int32)), .val (.ref ba), .val (.int (0 : Int32)), .unset, .unset, .unset, .unset] [(.int r)])) _
        refine s_iload (pc' := 349) X98.here hx (hb hby at_347) rfl rfl ?_
        have hk99 : r = (0 : Int32) := own_r0 r01 hrr (fun q => q.1 rfl)
        refine s_icmpNo (pc' := 352) X98.here hx (hb hby at_349) (teq hk99).2 rfl ?_
        refine s_iconst (pc' := 353) X98.here hx (v := (1 : Int32)) (hb hby at_352) rfl rfl ?_
        refine s_goto (pc' := 357) X98.here hx (hb hby at_353) (by decide) (by decide) ?_
        obtain ⟨fs, hr, hrun, hended, hRW⟩ := X98.leaveW hS (show _ ≤ T98.heap.size from by rw [eh98]; exact hk) (v := some (.int (1 : Int32))) (fun h => by rw [Bd.returns] at h; cases h)
        refine ⟨_, _, retN X98 hx (t := .boolean) Bd.returns (by simp) (hb hby at_357) hr, hrun, hended, _, _, rfl, ?_, own_rwm hRW (by decide) (by decide)⟩
        show own_rm0_Q Z p0 p1 p2 p3 p4 ci cu cs h0 n0 _ T98.heap _
        rw [eh98]
        exact ⟨rfl, N98⟩
      · subst hq_
        refine s_iload (pc' := 224) X0w.here hx (hb hby at_222) rfl rfl ?_
        refine s_newP (pc' := 226) (cap := 1) X0w hx hZ (hw _ (List.mem_of_getElem? (i := 0) rfl)) e0 (hb hby at_224) (by decide) (by decide) (by decide) (by decide) (by decide) rfl fun T100 hp100 X100 e100 ka100 E100 ba gq100 A100 => ?_
        have g_ba : n0 ≤ ba := Nat.le_trans Z0 (Nat.le_of_eq gq100.symm)
        have sf101 := Safe.ext E100 HC0 (Safe.new (Nat.le_of_eq gq100.symm))
        have HR102 := CHr.trans HR0 (CHr.ext E100 HC0)
        have HC103 := CHv.ext E100 HC0
        have O104 := O0.ext E100
        replace hk := Nat.le_trans hk E100.1
        have Z105 : n0 ≤ hp100.size := Nat.le_trans Z0 E100.1
        have V106 : Arv Z hp100 ba ka100 .byte (1 : Int32) [(.int (0 : Int32))] (.int (0 : Int32)) := (Arv.new A100 (by decide)).pad (pad_rep [] (.int (0 : Int32)) 1)
        refine s_astore (pc' := 228) X100.here hx (l' := #[.val (.int p0), .val (.int p1), .val (.int p2), .val (.int p3), .val (.int p4), .val (.int m5), .val (.int n6), .val (.int (1 : Int32)), .val (.ref ba), .unset, .unset, .unset, .unset, .unset]) (hb hby at_226) rfl rfl rfl ?_
        refine s_iload (pc' := 230) X100.here hx (hb hby at_228) rfl rfl ?_
        have hk107 : (0 : Int32) < (1 : Int32) := by decide
        refine s_ifNo (pc' := 233) X100.here hx (hb hby at_230) ((if0 _ _).trans (tlt hk107).2.2.2) rfl ?_
        refine s_aload (pc' := 235) X100.here hx (hb hby at_233) rfl rfl rfl ?_
        refine s_iconst (pc' := 236) X100.here hx (v := (0 : Int32)) (hb hby at_235) rfl rfl ?_
        refine s_iloadN (pc' := 237) X100.here hx (hb hby at_236) rfl rfl ?_
        refine s_i2b (pc' := 238) X100.here hx (hb hby at_237) rfl ?_
        refine s_putB (pc' := 239) X100 hx hZ e100 V106 ⟨by decide, by decide⟩ 0 rfl (Nat.le_of_ble_eq_true rfl) (hb hby at_238) rfl fun T108 hp108 X108 e108 W108 Vw108 => ?_
        have V109 : Arv Z hp108 ba ka100 .byte (1 : Int32) [(.int (nar .byte (p1.toInt8.toInt32)))] (.int (0 : Int32)) := Vw108
        have N108 := Fr.snoc X108 N0 g_ba
        have sf110 := Safe.wr W108 sf101 HC103 sf101
        have HR111 := CHr.trans HR102 (CHr.wr W108 sf101 HC103)
        have HC112 := CHv.wr W108 sf101 HC103
        have O113 := O104.wr W108 g_ba
        replace hk := Nat.le_trans hk (Keep.of_wr W108).1
        have Z114 : n0 ≤ hp108.size := Nat.le_trans Z105 (Keep.of_wr W108).1
        refine s_iload (pc' := 241) X108.here hx (hb hby at_239) rfl rfl ?_
        refine s_iconst (pc' := 242) X108.here hx (v := (1 : Int32)) (hb hby at_241) rfl rfl ?_
        have hk115 : ¬ ((1 : Int32) < (1 : Int32)) := by decide
        refine s_icmpYes (pc' := 251) X108.here hx (hb hby at_242) (flt hk115).2.2.2 (by decide) (by decide) ?_
        refine s_iload (pc' := 253) X108.here hx (hb hby at_251) rfl rfl ?_
        refine s_iconst (pc' := 254) X108.here hx (v := (2 : Int32)) (hb hby at_253) rfl rfl ?_
        have hk116 : ¬ ((2 : Int32) < (1 : Int32)) := by decide
        refine s_icmpYes (pc' := 263) X108.here hx (hb hby at_254) (flt hk116).2.2.2 (by decide) (by decide) ?_
        refine s_iload (pc' := 265) X108.here hx (hb hby at_263) rfl rfl ?_
        refine s_iconst (pc' := 266) X108.here hx (v := (3 : Int32)) (hb hby at_265) rfl rfl ?_
        have hk117 : ¬ ((3 : Int32) < (1 : Int32)) := by decide
        refine s_icmpYes (pc' := 276) X108.here hx (hb hby at_266) (flt hk117).2.2.2 (by decide) (by decide) ?_
        refine s_iload (pc' := 278) X108.here hx (hb hby at_276) rfl rfl ?_
        refine s_iconst (pc' := 279) X108.here hx (v := (1 : Int32)) (hb hby at_278) rfl rfl ?_
        have hk118 : ¬ ((1 : Int32) < (1 : Int32)) := by decide
        refine s_icmpNo (pc' := 282) X108.here hx (hb hby at_279) (flt hk118).1 rfl ?_
        refine s_iload (pc' := 284) X108.here hx (hb hby at_282) rfl rfl ?_
        refine s_iconst (pc' := 285) X108.here hx (v := (1 : Int32)) (hb hby at_284) rfl rfl ?_
        have hk119 : ¬ ((1 : Int32) < (1 : Int32)) := by decide
        refine s_icmpNo (pc' := 288) X108.here hx (hb hby at_285) (flt hk119).1 rfl ?_
        refine s_iloadN (pc' := 289) X108.here hx (hb hby at_288) rfl rfl ?_
        refine s_callS (pc' := 292) (W := 0) X108 hx hZ  hown (hw _ (List.mem_of_getElem? (i := 5) rfl)) (hw _ (List.mem_of_getElem? (i := 6) rfl)) (hw _ (List.mem_of_getElem? (i := 7) rfl)) (hw _ (List.mem_of_getElem? (i := 8) rfl)) (by decide) e108 (own_ok l Z a0 hw [] p1 hp108 n0 Z114 ) (by rw [hml]; rfl) [(.int p1)] [] rfl (lenOf own_pd7 rfl) rfl (Nat.le_of_eq rfl) (by decide) (by decide) (by decide) (by decide) rfl (hb hby at_289) fun T120 v120 Lc120 X120 hQ120 => ?_
        obtain ⟨rfl, Nq120, eh120⟩ := hQ120
        have N120 := Fr.app N108 Nq120
        show Ends p.tables e below (T120.setTop (mkF m 292 #[.val (.int p0), .val (.int p1), .val (.int p2), .val (.int p3), .val (.int p4), .val (.int m5), .val (.int n6), .val (.int (1 : Int32)), .val (.ref ba), .unset, .unset, .unset, .unset, .unset] [(.int (own_okr p1))])) _
        by_cases hk0 : (own_okr p1) = (0 : Int32)
        · refine s_ifYes (pc' := 339) X120.here hx (hb hby at_292) ((if0 _ _).trans (teq hk0).1) (by decide) (by decide) ?_
          refine s_iconst (pc' := 340) X120.here hx (v := (0 : Int32)) (hb hby at_339) rfl rfl ?_
          refine s_istore (pc' := 342) X120.here hx (l' := #[.val (.int p0), .val (.int p1), .val (.int p2), .val (.int p3), .val (.int p4), .val (.int m5), .val (.int n6), .val (.int (1 : Int32)), .val (.ref ba), .val (.int (0 : Int32)), .unset, .unset, .unset, .unset]) (hb hby at_340) rfl rfl ?_
          refine s_aload (pc' := 344) X120.here hx (hb hby at_342) rfl rfl rfl ?_
          obtain ⟨r, r01, hrr⟩ := own_pick (own_V (1 : Int32) [(.int (nar .byte (p1.toInt8.toInt32)))])
          refine s_callS (pc' := 347) (W := 0) X120 hx hZ  hown (hw _ (List.mem_of_getElem? (i := 1) rfl)) (hw _ (List.mem_of_getElem? (i := 2) rfl)) (hw _ (List.mem_of_getElem? (i := 3) rfl)) (hw _ (List.mem_of_getElem? (i := 4) rfl)) (by decide) eh120 (own_isv l Z a0 hw [] ba ka100 (1 : Int32) [(.int (nar .byte (p1.toInt8.toInt32)))] r hp108 n0 Z114 V109 r01 hrr) (by rw [hml]; rfl) [(.ref ba)] [] rfl (lenOf own_pd8 rfl) rfl (Nat.le_of_eq rfl) (by decide) (by decide) (by decide) (by decide) rfl (hb hby at_344) fun T121 v121 Lc121 X121 hQ121 => ?_
          obtain ⟨rfl, Nq121, eh121⟩ := hQ121
          have N121 := Fr.app N120 Nq121
          show Ends p.tables e below (T121.setTop (mkF m 347 #[.val (.int p0), .val (.int p1), .val (.int p2), .val (.int p3), .val (.int p4), .val (.int m5), .val (.int n6), .val (.int (1 : Int32)), .val (.ref ba), .val (.int (0 : Int32)), .unset, .unset, .unset, .unset] [(.int r)])) _
          refine s_iload (pc' := 349) X121.here hx (hb hby at_347) rfl rfl ?_
          have hk122 : r = (0 : Int32) := own_r0 r01 hrr (fun q => own_gok0 hk0 (q.2.2 0 (by decide)))
          refine s_icmpNo (pc' := 352) X121.here hx (hb hby at_349) (teq hk122).2 rfl ?_
          refine s_iconst (pc' := 353) X121.here hx (v := (1 : Int32)) (hb hby at_352) rfl rfl ?_
          refine s_goto (pc' := 357) X121.here hx (hb hby at_353) (by decide) (by decide) ?_
          obtain ⟨fs, hr, hrun, hended, hRW⟩ := X121.leaveW hS (show _ ≤ T121.heap.size from by rw [eh121]; exact hk) (v := some (.int (1 : Int32))) (fun h => by rw [Bd.returns] at h; cases h)
          refine ⟨_, _, retN X121 hx (t := .boolean) Bd.returns (by simp) (hb hby at_357) hr, hrun, hended, _, _, rfl, ?_, own_rwm hRW (by decide) (by decide)⟩
          show own_rm0_Q Z p0 p1 p2 p3 p4 ci cu cs h0 n0 _ T121.heap _
          rw [eh121]
          exact ⟨rfl, N121⟩
        · refine s_ifNo (pc' := 295) X120.here hx (hb hby at_292) ((if0 _ _).trans (feq hk0).1) rfl ?_
          refine s_iload (pc' := 297) X120.here hx (hb hby at_295) rfl rfl ?_
          refine s_iconst (pc' := 298) X120.here hx (v := (2 : Int32)) (hb hby at_297) rfl rfl ?_
          have hk123 : (1 : Int32) < (2 : Int32) := by decide
          refine s_icmpYes (pc' := 308) X120.here hx (hb hby at_298) (tlt hk123).1 (by decide) (by decide) ?_
          refine s_iload (pc' := 310) X120.here hx (hb hby at_308) rfl rfl ?_
          refine s_iconst (pc' := 311) X120.here hx (v := (3 : Int32)) (hb hby at_310) rfl rfl ?_
          have hk124 : (1 : Int32) < (3 : Int32) := by decide
          refine s_icmpYes (pc' := 321) X120.here hx (hb hby at_311) (tlt hk124).1 (by decide) (by decide) ?_
          refine s_iload (pc' := 323) X120.here hx (hb hby at_321) rfl rfl ?_
          refine s_iconst (pc' := 324) X120.here hx (v := (4 : Int32)) (hb hby at_323) rfl rfl ?_
          have hk125 : (1 : Int32) < (4 : Int32) := by decide
          refine s_icmpYes (pc' := 335) X120.here hx (hb hby at_324) (tlt hk125).1 (by decide) (by decide) ?_
          refine s_iconst (pc' := 336) X120.here hx (v := (1 : Int32)) (hb hby at_335) rfl rfl ?_
          refine s_goto (pc' := 340) X120.here hx (hb hby at_336) (by decide) (by decide) ?_
          refine s_istore (pc' := 342) X120.here hx (l' := #[.val (.int p0), .val (.int p1), .val (.int p2), .val (.int p3), .val (.int p4), .val (.int m5), .val (.int n6), .val (.int (1 : Int32)), .val (.ref ba), .val (.int (1 : Int32)), .unset, .unset, .unset, .unset]) (hb hby at_340) rfl rfl ?_
          refine s_aload (pc' := 344) X120.here hx (hb hby at_342) rfl rfl rfl ?_
          obtain ⟨r, r01, hrr⟩ := own_pick (own_V (1 : Int32) [(.int (nar .byte (p1.toInt8.toInt32)))])
          refine s_callS (pc' := 347) (W := 0) X120 hx hZ  hown (hw _ (List.mem_of_getElem? (i := 1) rfl)) (hw _ (List.mem_of_getElem? (i := 2) rfl)) (hw _ (List.mem_of_getElem? (i := 3) rfl)) (hw _ (List.mem_of_getElem? (i := 4) rfl)) (by decide) eh120 (own_isv l Z a0 hw [] ba ka100 (1 : Int32) [(.int (nar .byte (p1.toInt8.toInt32)))] r hp108 n0 Z114 V109 r01 hrr) (by rw [hml]; rfl) [(.ref ba)] [] rfl (lenOf own_pd8 rfl) rfl (Nat.le_of_eq rfl) (by decide) (by decide) (by decide) (by decide) rfl (hb hby at_344) fun T126 v126 Lc126 X126 hQ126 => ?_
          obtain ⟨rfl, Nq126, eh126⟩ := hQ126
          have N126 := Fr.app N120 Nq126
          show Ends p.tables e below (T126.setTop (mkF m 347 #[.val (.int p0), .val (.int p1), .val (.int p2), .val (.int p3), .val (.int p4), .val (.int m5), .val (.int n6), .val (.int (1 : Int32)), .val (.ref ba), .val (.int (1 : Int32)), .unset, .unset, .unset, .unset] [(.int r)])) _
          refine s_iload (pc' := 349) X126.here hx (hb hby at_347) rfl rfl ?_
          have hk127 : r = (1 : Int32) := hrr.mpr ((own_Vl rfl (by decide) (by decide)).mpr (fun v hv => by
                simp only [List.mem_cons, List.not_mem_nil, or_false] at hv
                rcases hv with rfl
                · exact (own_gok _).mpr hk0))
          refine s_icmpNo (pc' := 352) X126.here hx (hb hby at_349) (teq hk127).2 rfl ?_
          refine s_iconst (pc' := 353) X126.here hx (v := (1 : Int32)) (hb hby at_352) rfl rfl ?_
          refine s_goto (pc' := 357) X126.here hx (hb hby at_353) (by decide) (by decide) ?_
          obtain ⟨fs, hr, hrun, hended, hRW⟩ := X126.leaveW hS (show _ ≤ T126.heap.size from by rw [eh126]; exact hk) (v := some (.int (1 : Int32))) (fun h => by rw [Bd.returns] at h; cases h)
          refine ⟨_, _, retN X126 hx (t := .boolean) Bd.returns (by simp) (hb hby at_357) hr, hrun, hended, _, _, rfl, ?_, own_rwm hRW (by decide) (by decide)⟩
          show own_rm0_Q Z p0 p1 p2 p3 p4 ci cu cs h0 n0 _ T126.heap _
          rw [eh126]
          exact ⟨rfl, N126⟩
      · subst hq_
        refine s_iload (pc' := 224) X0w.here hx (hb hby at_222) rfl rfl ?_
        refine s_newP (pc' := 226) (cap := 2) X0w hx hZ (hw _ (List.mem_of_getElem? (i := 0) rfl)) e0 (hb hby at_224) (by decide) (by decide) (by decide) (by decide) (by decide) rfl fun T128 hp128 X128 e128 ka128 E128 ba gq128 A128 => ?_
        have g_ba : n0 ≤ ba := Nat.le_trans Z0 (Nat.le_of_eq gq128.symm)
        have sf129 := Safe.ext E128 HC0 (Safe.new (Nat.le_of_eq gq128.symm))
        have HR130 := CHr.trans HR0 (CHr.ext E128 HC0)
        have HC131 := CHv.ext E128 HC0
        have O132 := O0.ext E128
        replace hk := Nat.le_trans hk E128.1
        have Z133 : n0 ≤ hp128.size := Nat.le_trans Z0 E128.1
        have V134 : Arv Z hp128 ba ka128 .byte (2 : Int32) [(.int (0 : Int32)), (.int (0 : Int32))] (.int (0 : Int32)) := (Arv.new A128 (by decide)).pad (pad_rep [] (.int (0 : Int32)) 2)
        refine s_astore (pc' := 228) X128.here hx (l' := #[.val (.int p0), .val (.int p1), .val (.int p2), .val (.int p3), .val (.int p4), .val (.int m5), .val (.int n6), .val (.int (2 : Int32)), .val (.ref ba), .unset, .unset, .unset, .unset, .unset]) (hb hby at_226) rfl rfl rfl ?_
        refine s_iload (pc' := 230) X128.here hx (hb hby at_228) rfl rfl ?_
        have hk135 : (0 : Int32) < (2 : Int32) := by decide
        refine s_ifNo (pc' := 233) X128.here hx (hb hby at_230) ((if0 _ _).trans (tlt hk135).2.2.2) rfl ?_
        refine s_aload (pc' := 235) X128.here hx (hb hby at_233) rfl rfl rfl ?_
        refine s_iconst (pc' := 236) X128.here hx (v := (0 : Int32)) (hb hby at_235) rfl rfl ?_
        refine s_iloadN (pc' := 237) X128.here hx (hb hby at_236) rfl rfl ?_
        refine s_i2b (pc' := 238) X128.here hx (hb hby at_237) rfl ?_
        refine s_putB (pc' := 239) X128 hx hZ e128 V134 ⟨by decide, by decide⟩ 0 rfl (Nat.le_of_ble_eq_true rfl) (hb hby at_238) rfl fun T136 hp136 X136 e136 W136 Vw136 => ?_
        have V137 : Arv Z hp136 ba ka128 .byte (2 : Int32) [(.int (nar .byte (p1.toInt8.toInt32))), (.int (0 : Int32))] (.int (0 : Int32)) := Vw136
        have N136 := Fr.snoc X136 N0 g_ba
        have sf138 := Safe.wr W136 sf129 HC131 sf129
        have HR139 := CHr.trans HR130 (CHr.wr W136 sf129 HC131)
        have HC140 := CHv.wr W136 sf129 HC131
        have O141 := O132.wr W136 g_ba
        replace hk := Nat.le_trans hk (Keep.of_wr W136).1
        have Z142 : n0 ≤ hp136.size := Nat.le_trans Z133 (Keep.of_wr W136).1
        refine s_iload (pc' := 241) X136.here hx (hb hby at_239) rfl rfl ?_
        refine s_iconst (pc' := 242) X136.here hx (v := (1 : Int32)) (hb hby at_241) rfl rfl ?_
        have hk143 : (1 : Int32) < (2 : Int32) := by decide
        refine s_icmpNo (pc' := 245) X136.here hx (hb hby at_242) (tlt hk143).2.2.2 rfl ?_
        refine s_aload (pc' := 247) X136.here hx (hb hby at_245) rfl rfl rfl ?_
        refine s_iconst (pc' := 248) X136.here hx (v := (1 : Int32)) (hb hby at_247) rfl rfl ?_
        refine s_iloadN (pc' := 249) X136.here hx (hb hby at_248) rfl rfl ?_
        refine s_i2b (pc' := 250) X136.here hx (hb hby at_249) rfl ?_
        refine s_putB (pc' := 251) X136 hx hZ e136 V137 ⟨by decide, by decide⟩ 1 rfl (Nat.le_of_ble_eq_true rfl) (hb hby at_250) rfl fun T144 hp144 X144 e144 W144 Vw144 => ?_
        have V145 : Arv Z hp144 ba ka128 .byte (2 : Int32) [(.int (nar .byte (p1.toInt8.toInt32))), (.int (nar .byte (p2.toInt8.toInt32)))] (.int (0 : Int32)) := Vw144
        have N144 := Fr.snoc X144 N136 g_ba
        have sf146 := Safe.wr W144 sf138 HC140 sf138
        have HR147 := CHr.trans HR139 (CHr.wr W144 sf138 HC140)
        have HC148 := CHv.wr W144 sf138 HC140
        have O149 := O141.wr W144 g_ba
        replace hk := Nat.le_trans hk (Keep.of_wr W144).1
        have Z150 : n0 ≤ hp144.size := Nat.le_trans Z142 (Keep.of_wr W144).1
        refine s_iload (pc' := 253) X144.here hx (hb hby at_251) rfl rfl ?_
        refine s_iconst (pc' := 254) X144.here hx (v := (2 : Int32)) (hb hby at_253) rfl rfl ?_
        have hk151 : ¬ ((2 : Int32) < (2 : Int32)) := by decide
        refine s_icmpYes (pc' := 263) X144.here hx (hb hby at_254) (flt hk151).2.2.2 (by decide) (by decide) ?_
        refine s_iload (pc' := 265) X144.here hx (hb hby at_263) rfl rfl ?_
        refine s_iconst (pc' := 266) X144.here hx (v := (3 : Int32)) (hb hby at_265) rfl rfl ?_
        have hk152 : ¬ ((3 : Int32) < (2 : Int32)) := by decide
        refine s_icmpYes (pc' := 276) X144.here hx (hb hby at_266) (flt hk152).2.2.2 (by decide) (by decide) ?_
        refine s_iload (pc' := 278) X144.here hx (hb hby at_276) rfl rfl ?_
        refine s_iconst (pc' := 279) X144.here hx (v := (1 : Int32)) (hb hby at_278) rfl rfl ?_
        have hk153 : ¬ ((2 : Int32) < (1 : Int32)) := by decide
        refine s_icmpNo (pc' := 282) X144.here hx (hb hby at_279) (flt hk153).1 rfl ?_
        refine s_iload (pc' := 284) X144.here hx (hb hby at_282) rfl rfl ?_
        refine s_iconst (pc' := 285) X144.here hx (v := (1 : Int32)) (hb hby at_284) rfl rfl ?_
        have hk154 : ¬ ((2 : Int32) < (1 : Int32)) := by decide
        refine s_icmpNo (pc' := 288) X144.here hx (hb hby at_285) (flt hk154).1 rfl ?_
        refine s_iloadN (pc' := 289) X144.here hx (hb hby at_288) rfl rfl ?_
        refine s_callS (pc' := 292) (W := 0) X144 hx hZ  hown (hw _ (List.mem_of_getElem? (i := 5) rfl)) (hw _ (List.mem_of_getElem? (i := 6) rfl)) (hw _ (List.mem_of_getElem? (i := 7) rfl)) (hw _ (List.mem_of_getElem? (i := 8) rfl)) (by decide) e144 (own_ok l Z a0 hw [] p1 hp144 n0 Z150 ) (by rw [hml]; rfl) [(.int p1)] [] rfl (lenOf own_pd7 rfl) rfl (Nat.le_of_eq rfl) (by decide) (by decide) (by decide) (by decide) rfl (hb hby at_289) fun T155 v155 Lc155 X155 hQ155 => ?_
        obtain ⟨rfl, Nq155, eh155⟩ := hQ155
        have N155 := Fr.app N144 Nq155
        show Ends p.tables e below (T155.setTop (mkF m 292 #[.val (.int p0), .val (.int p1), .val (.int p2), .val (.int p3), .val (.int p4), .val (.int m5), .val (.int n6), .val (.int (2 : Int32)), .val (.ref ba), .unset, .unset, .unset, .unset, .unset] [(.int (own_okr p1))])) _
        by_cases hk0 : (own_okr p1) = (0 : Int32)
        · refine s_ifYes (pc' := 339) X155.here hx (hb hby at_292) ((if0 _ _).trans (teq hk0).1) (by decide) (by decide) ?_
          refine s_iconst (pc' := 340) X155.here hx (v := (0 : Int32)) (hb hby at_339) rfl rfl ?_
          refine s_istore (pc' := 342) X155.here hx (l' := #[.val (.int p0), .val (.int p1), .val (.int p2), .val (.int p3), .val (.int p4), .val (.int m5), .val (.int n6), .val (.int (2 : Int32)), .val (.ref ba), .val (.int (0 : Int32)), .unset, .unset, .unset, .unset]) (hb hby at_340) rfl rfl ?_
          refine s_aload (pc' := 344) X155.here hx (hb hby at_342) rfl rfl rfl ?_
          obtain ⟨r, r01, hrr⟩ := own_pick (own_V (2 : Int32) [(.int (nar .byte (p1.toInt8.toInt32))), (.int (nar .byte (p2.toInt8.toInt32)))])
          refine s_callS (pc' := 347) (W := 0) X155 hx hZ  hown (hw _ (List.mem_of_getElem? (i := 1) rfl)) (hw _ (List.mem_of_getElem? (i := 2) rfl)) (hw _ (List.mem_of_getElem? (i := 3) rfl)) (hw _ (List.mem_of_getElem? (i := 4) rfl)) (by decide) eh155 (own_isv l Z a0 hw [] ba ka128 (2 : Int32) [(.int (nar .byte (p1.toInt8.toInt32))), (.int (nar .byte (p2.toInt8.toInt32)))] r hp144 n0 Z150 V145 r01 hrr) (by rw [hml]; rfl) [(.ref ba)] [] rfl (lenOf own_pd8 rfl) rfl (Nat.le_of_eq rfl) (by decide) (by decide) (by decide) (by decide) rfl (hb hby at_344) fun T156 v156 Lc156 X156 hQ156 => ?_
          obtain ⟨rfl, Nq156, eh156⟩ := hQ156
          have N156 := Fr.app N155 Nq156
          show Ends p.tables e below (T156.setTop (mkF m 347 #[.val (.int p0), .val (.int p1), .val (.int p2), .val (.int p3), .val (.int p4), .val (.int m5), .val (.int n6), .val (.int (2 : Int32)), .val (.ref ba), .val (.int (0 : Int32)), .unset, .unset, .unset, .unset] [(.int r)])) _
          refine s_iload (pc' := 349) X156.here hx (hb hby at_347) rfl rfl ?_
          have hk157 : r = (0 : Int32) := own_r0 r01 hrr (fun q => own_gok0 hk0 (q.2.2 0 (by decide)))
          refine s_icmpNo (pc' := 352) X156.here hx (hb hby at_349) (teq hk157).2 rfl ?_
          refine s_iconst (pc' := 353) X156.here hx (v := (1 : Int32)) (hb hby at_352) rfl rfl ?_
          refine s_goto (pc' := 357) X156.here hx (hb hby at_353) (by decide) (by decide) ?_
          obtain ⟨fs, hr, hrun, hended, hRW⟩ := X156.leaveW hS (show _ ≤ T156.heap.size from by rw [eh156]; exact hk) (v := some (.int (1 : Int32))) (fun h => by rw [Bd.returns] at h; cases h)
          refine ⟨_, _, retN X156 hx (t := .boolean) Bd.returns (by simp) (hb hby at_357) hr, hrun, hended, _, _, rfl, ?_, own_rwm hRW (by decide) (by decide)⟩
          show own_rm0_Q Z p0 p1 p2 p3 p4 ci cu cs h0 n0 _ T156.heap _
          rw [eh156]
          exact ⟨rfl, N156⟩
        · refine s_ifNo (pc' := 295) X155.here hx (hb hby at_292) ((if0 _ _).trans (feq hk0).1) rfl ?_
          refine s_iload (pc' := 297) X155.here hx (hb hby at_295) rfl rfl ?_
          refine s_iconst (pc' := 298) X155.here hx (v := (2 : Int32)) (hb hby at_297) rfl rfl ?_
          have hk158 : ¬ ((2 : Int32) < (2 : Int32)) := by decide
          refine s_icmpNo (pc' := 301) X155.here hx (hb hby at_298) (flt hk158).1 rfl ?_
          refine s_iloadN (pc' := 302) X155.here hx (hb hby at_301) rfl rfl ?_
          refine s_callS (pc' := 305) (W := 0) X155 hx hZ  hown (hw _ (List.mem_of_getElem? (i := 5) rfl)) (hw _ (List.mem_of_getElem? (i := 6) rfl)) (hw _ (List.mem_of_getElem? (i := 7) rfl)) (hw _ (List.mem_of_getElem? (i := 8) rfl)) (by decide) eh155 (own_ok l Z a0 hw [] p2 hp144 n0 Z150 ) (by rw [hml]; rfl) [(.int p2)] [] rfl (lenOf own_pd7 rfl) rfl (Nat.le_of_eq rfl) (by decide) (by decide) (by decide) (by decide) rfl (hb hby at_302) fun T159 v159 Lc159 X159 hQ159 => ?_
          obtain ⟨rfl, Nq159, eh159⟩ := hQ159
          have N159 := Fr.app N155 Nq159
          show Ends p.tables e below (T159.setTop (mkF m 305 #[.val (.int p0), .val (.int p1), .val (.int p2), .val (.int p3), .val (.int p4), .val (.int m5), .val (.int n6), .val (.int (2 : Int32)), .val (.ref ba), .unset, .unset, .unset, .unset, .unset] [(.int (own_okr p2))])) _
          by_cases hk1 : (own_okr p2) = (0 : Int32)
          · refine s_ifYes (pc' := 339) X159.here hx (hb hby at_305) ((if0 _ _).trans (teq hk1).1) (by decide) (by decide) ?_
            refine s_iconst (pc' := 340) X159.here hx (v := (0 : Int32)) (hb hby at_339) rfl rfl ?_
            refine s_istore (pc' := 342) X159.here hx (l' := #[.val (.int p0), .val (.int p1), .val (.int p2), .val (.int p3), .val (.int p4), .val (.int m5), .val (.int n6), .val (.int (2 : Int32)), .val (.ref ba), .val (.int (0 : Int32)), .unset, .unset, .unset, .unset]) (hb hby at_340) rfl rfl ?_
            refine s_aload (pc' := 344) X159.here hx (hb hby at_342) rfl rfl rfl ?_
            obtain ⟨r, r01, hrr⟩ := own_pick (own_V (2 : Int32) [(.int (nar .byte (p1.toInt8.toInt32))), (.int (nar .byte (p2.toInt8.toInt32)))])
            refine s_callS (pc' := 347) (W := 0) X159 hx hZ  hown (hw _ (List.mem_of_getElem? (i := 1) rfl)) (hw _ (List.mem_of_getElem? (i := 2) rfl)) (hw _ (List.mem_of_getElem? (i := 3) rfl)) (hw _ (List.mem_of_getElem? (i := 4) rfl)) (by decide) eh159 (own_isv l Z a0 hw [] ba ka128 (2 : Int32) [(.int (nar .byte (p1.toInt8.toInt32))), (.int (nar .byte (p2.toInt8.toInt32)))] r hp144 n0 Z150 V145 r01 hrr) (by rw [hml]; rfl) [(.ref ba)] [] rfl (lenOf own_pd8 rfl) rfl (Nat.le_of_eq rfl) (by decide) (by decide) (by decide) (by decide) rfl (hb hby at_344) fun T160 v160 Lc160 X160 hQ160 => ?_
            obtain ⟨rfl, Nq160, eh160⟩ := hQ160
            have N160 := Fr.app N159 Nq160
            show Ends p.tables e below (T160.setTop (mkF m 347 #[.val (.int p0), .val (.int p1), .val (.int p2), .val (.int p3), .val (.int p4), .val (.int m5), .val (.int n6), .val (.int (2 : Int32)), .val (.ref ba), .val (.int (0 : Int32)), .unset, .unset, .unset, .unset] [(.int r)])) _
            refine s_iload (pc' := 349) X160.here hx (hb hby at_347) rfl rfl ?_
            have hk161 : r = (0 : Int32) := own_r0 r01 hrr (fun q => own_gok0 hk1 (q.2.2 1 (by decide)))
            refine s_icmpNo (pc' := 352) X160.here hx (hb hby at_349) (teq hk161).2 rfl ?_
            refine s_iconst (pc' := 353) X160.here hx (v := (1 : Int32)) (hb hby at_352) rfl rfl ?_
            refine s_goto (pc' := 357) X160.here hx (hb hby at_353) (by decide) (by decide) ?_
            obtain ⟨fs, hr, hrun, hended, hRW⟩ := X160.leaveW hS (show _ ≤ T160.heap.size from by rw [eh160]; exact hk) (v := some (.int (1 : Int32))) (fun h => by rw [Bd.returns] at h; cases h)
            refine ⟨_, _, retN X160 hx (t := .boolean) Bd.returns (by simp) (hb hby at_357) hr, hrun, hended, _, _, rfl, ?_, own_rwm hRW (by decide) (by decide)⟩
            show own_rm0_Q Z p0 p1 p2 p3 p4 ci cu cs h0 n0 _ T160.heap _
            rw [eh160]
            exact ⟨rfl, N160⟩
          · refine s_ifNo (pc' := 308) X159.here hx (hb hby at_305) ((if0 _ _).trans (feq hk1).1) rfl ?_
            refine s_iload (pc' := 310) X159.here hx (hb hby at_308) rfl rfl ?_
            refine s_iconst (pc' := 311) X159.here hx (v := (3 : Int32)) (hb hby at_310) rfl rfl ?_
            have hk162 : (2 : Int32) < (3 : Int32) := by decide
            refine s_icmpYes (pc' := 321) X159.here hx (hb hby at_311) (tlt hk162).1 (by decide) (by decide) ?_
            refine s_iload (pc' := 323) X159.here hx (hb hby at_321) rfl rfl ?_
            refine s_iconst (pc' := 324) X159.here hx (v := (4 : Int32)) (hb hby at_323) rfl rfl ?_
            have hk163 : (2 : Int32) < (4 : Int32) := by decide
            refine s_icmpYes (pc' := 335) X159.here hx (hb hby at_324) (tlt hk163).1 (by decide) (by decide) ?_
            refine s_iconst (pc' := 336) X159.here hx (v := (1 : Int32)) (hb hby at_335) rfl rfl ?_
            refine s_goto (pc' := 340) X159.here hx (hb hby at_336) (by decide) (by decide) ?_
            refine s_istore (pc' := 342) X159.here hx (l' := #[.val (.int p0), .val (.int p1), .val (.int p2), .val (.int p3), .val (.int p4), .val (.int m5), .val (.int n6), .val (.int (2 : Int32)), .val (.ref ba), .val (.int (1 : Int32)), .unset, .unset, .unset, .unset]) (hb hby at_340) rfl rfl ?_
            refine s_aload (pc' := 344) X159.here hx (hb hby at_342) rfl rfl rfl ?_
            obtain ⟨r, r01, hrr⟩ := own_pick (own_V (2 : Int32) [(.int (nar .byte (p1.toInt8.toInt32))), (.int (nar .byte (p2.toInt8.toInt32)))])
            refine s_callS (pc' := 347) (W := 0) X159 hx hZ  hown (hw _ (List.mem_of_getElem? (i := 1) rfl)) (hw _ (List.mem_of_getElem? (i := 2) rfl)) (hw _ (List.mem_of_getElem? (i := 3) rfl)) (hw _ (List.mem_of_getElem? (i := 4) rfl)) (by decide) eh159 (own_isv l Z a0 hw [] ba ka128 (2 : Int32) [(.int (nar .byte (p1.toInt8.toInt32))), (.int (nar .byte (p2.toInt8.toInt32)))] r hp144 n0 Z150 V145 r01 hrr) (by rw [hml]; rfl) [(.ref ba)] [] rfl (lenOf own_pd8 rfl) rfl (Nat.le_of_eq rfl) (by decide) (by decide) (by decide) (by decide) rfl (hb hby at_344) fun T164 v164 Lc164 X164 hQ164 => ?_
            obtain ⟨rfl, Nq164, eh164⟩ := hQ164
            have N164 := Fr.app N159 Nq164
            show Ends p.tables e below (T164.setTop (mkF m 347 #[.val (.int p0), .val (.int p1), .val (.int p2), .val (.int p3), .val (.int p4), .val (.int m5), .val (.int n6), .val (.int (2 : Int32)), .val (.ref ba), .val (.int (1 : Int32)), .unset, .unset, .unset, .unset] [(.int r)])) _
            refine s_iload (pc' := 349) X164.here hx (hb hby at_347) rfl rfl ?_
            have hk165 : r = (1 : Int32) := hrr.mpr ((own_Vl rfl (by decide) (by decide)).mpr (fun v hv => by
                  simp only [List.mem_cons, List.not_mem_nil, or_false] at hv
                  rcases hv with rfl | rfl
                  · exact (own_gok _).mpr hk0
                  · exact (own_gok _).mpr hk1))
            refine s_icmpNo (pc' := 352) X164.here hx (hb hby at_349) (teq hk165).2 rfl ?_
            refine s_iconst (pc' := 353) X164.here hx (v := (1 : Int32)) (hb hby at_352) rfl rfl ?_
            refine s_goto (pc' := 357) X164.here hx (hb hby at_353) (by decide) (by decide) ?_
            obtain ⟨fs, hr, hrun, hended, hRW⟩ := X164.leaveW hS (show _ ≤ T164.heap.size from by rw [eh164]; exact hk) (v := some (.int (1 : Int32))) (fun h => by rw [Bd.returns] at h; cases h)
            refine ⟨_, _, retN X164 hx (t := .boolean) Bd.returns (by simp) (hb hby at_357) hr, hrun, hended, _, _, rfl, ?_, own_rwm hRW (by decide) (by decide)⟩
            show own_rm0_Q Z p0 p1 p2 p3 p4 ci cu cs h0 n0 _ T164.heap _
            rw [eh164]
            exact ⟨rfl, N164⟩
      · subst hq_
        refine s_iload (pc' := 224) X0w.here hx (hb hby at_222) rfl rfl ?_
        refine s_newP (pc' := 226) (cap := 3) X0w hx hZ (hw _ (List.mem_of_getElem? (i := 0) rfl)) e0 (hb hby at_224) (by decide) (by decide) (by decide) (by decide) (by decide) rfl fun T166 hp166 X166 e166 ka166 E166 ba gq166 A166 => ?_
        have g_ba : n0 ≤ ba := Nat.le_trans Z0 (Nat.le_of_eq gq166.symm)
        have sf167 := Safe.ext E166 HC0 (Safe.new (Nat.le_of_eq gq166.symm))
        have HR168 := CHr.trans HR0 (CHr.ext E166 HC0)
        have HC169 := CHv.ext E166 HC0
        have O170 := O0.ext E166
        replace hk := Nat.le_trans hk E166.1
        have Z171 : n0 ≤ hp166.size := Nat.le_trans Z0 E166.1
        have V172 : Arv Z hp166 ba ka166 .byte (3 : Int32) [(.int (0 : Int32)), (.int (0 : Int32)), (.int (0 : Int32))] (.int (0 : Int32)) := (Arv.new A166 (by decide)).pad (pad_rep [] (.int (0 : Int32)) 3)
        refine s_astore (pc' := 228) X166.here hx (l' := #[.val (.int p0), .val (.int p1), .val (.int p2), .val (.int p3), .val (.int p4), .val (.int m5), .val (.int n6), .val (.int (3 : Int32)), .val (.ref ba), .unset, .unset, .unset, .unset, .unset]) (hb hby at_226) rfl rfl rfl ?_
        refine s_iload (pc' := 230) X166.here hx (hb hby at_228) rfl rfl ?_
        have hk173 : (0 : Int32) < (3 : Int32) := by decide
        refine s_ifNo (pc' := 233) X166.here hx (hb hby at_230) ((if0 _ _).trans (tlt hk173).2.2.2) rfl ?_
        refine s_aload (pc' := 235) X166.here hx (hb hby at_233) rfl rfl rfl ?_
        refine s_iconst (pc' := 236) X166.here hx (v := (0 : Int32)) (hb hby at_235) rfl rfl ?_
        refine s_iloadN (pc' := 237) X166.here hx (hb hby at_236) rfl rfl ?_
        refine s_i2b (pc' := 238) X166.here hx (hb hby at_237) rfl ?_
        refine s_putB (pc' := 239) X166 hx hZ e166 V172 ⟨by decide, by decide⟩ 0 rfl (Nat.le_of_ble_eq_true rfl) (hb hby at_238) rfl fun T174 hp174 X174 e174 W174 Vw174 => ?_
        have V175 : Arv Z hp174 ba ka166 .byte (3 : Int32) [(.int (nar .byte (p1.toInt8.toInt32))), (.int (0 : Int32)), (.int (0 : Int32))] (.int (0 : Int32)) := Vw174
        have N174 := Fr.snoc X174 N0 g_ba
        have sf176 := Safe.wr W174 sf167 HC169 sf167
        have HR177 := CHr.trans HR168 (CHr.wr W174 sf167 HC169)
        have HC178 := CHv.wr W174 sf167 HC169
        have O179 := O170.wr W174 g_ba
        replace hk := Nat.le_trans hk (Keep.of_wr W174).1
        have Z180 : n0 ≤ hp174.size := Nat.le_trans Z171 (Keep.of_wr W174).1
        refine s_iload (pc' := 241) X174.here hx (hb hby at_239) rfl rfl ?_
        refine s_iconst (pc' := 242) X174.here hx (v := (1 : Int32)) (hb hby at_241) rfl rfl ?_
        have hk181 : (1 : Int32) < (3 : Int32) := by decide
        refine s_icmpNo (pc' := 245) X174.here hx (hb hby at_242) (tlt hk181).2.2.2 rfl ?_
        refine s_aload (pc' := 247) X174.here hx (hb hby at_245) rfl rfl rfl ?_
        refine s_iconst (pc' := 248) X174.here hx (v := (1 : Int32)) (hb hby at_247) rfl rfl ?_
        refine s_iloadN (pc' := 249) X174.here hx (hb hby at_248) rfl rfl ?_
        refine s_i2b (pc' := 250) X174.here hx (hb hby at_249) rfl ?_
        refine s_putB (pc' := 251) X174 hx hZ e174 V175 ⟨by decide, by decide⟩ 1 rfl (Nat.le_of_ble_eq_true rfl) (hb hby at_250) rfl fun T182 hp182 X182 e182 W182 Vw182 => ?_
        have V183 : Arv Z hp182 ba ka166 .byte (3 : Int32) [(.int (nar .byte (p1.toInt8.toInt32))), (.int (nar .byte (p2.toInt8.toInt32))), (.int (0 : Int32))] (.int (0 : Int32)) := Vw182
        have N182 := Fr.snoc X182 N174 g_ba
        have sf184 := Safe.wr W182 sf176 HC178 sf176
        have HR185 := CHr.trans HR177 (CHr.wr W182 sf176 HC178)
        have HC186 := CHv.wr W182 sf176 HC178
        have O187 := O179.wr W182 g_ba
        replace hk := Nat.le_trans hk (Keep.of_wr W182).1
        have Z188 : n0 ≤ hp182.size := Nat.le_trans Z180 (Keep.of_wr W182).1
        refine s_iload (pc' := 253) X182.here hx (hb hby at_251) rfl rfl ?_
        refine s_iconst (pc' := 254) X182.here hx (v := (2 : Int32)) (hb hby at_253) rfl rfl ?_
        have hk189 : (2 : Int32) < (3 : Int32) := by decide
        refine s_icmpNo (pc' := 257) X182.here hx (hb hby at_254) (tlt hk189).2.2.2 rfl ?_
        refine s_aload (pc' := 259) X182.here hx (hb hby at_257) rfl rfl rfl ?_
        refine s_iconst (pc' := 260) X182.here hx (v := (2 : Int32)) (hb hby at_259) rfl rfl ?_
        refine s_iloadN (pc' := 261) X182.here hx (hb hby at_260) rfl rfl ?_
        refine s_i2b (pc' := 262) X182.here hx (hb hby at_261) rfl ?_
        refine s_putB (pc' := 263) X182 hx hZ e182 V183 ⟨by decide, by decide⟩ 2 rfl (Nat.le_of_ble_eq_true rfl) (hb hby at_262) rfl fun T190 hp190 X190 e190 W190 Vw190 => ?_
        have V191 : Arv Z hp190 ba ka166 .byte (3 : Int32) [(.int (nar .byte (p1.toInt8.toInt32))), (.int (nar .byte (p2.toInt8.toInt32))), (.int (nar .byte (p3.toInt8.toInt32)))] (.int (0 : Int32)) := Vw190
        have N190 := Fr.snoc X190 N182 g_ba
        have sf192 := Safe.wr W190 sf184 HC186 sf184
        have HR193 := CHr.trans HR185 (CHr.wr W190 sf184 HC186)
        have HC194 := CHv.wr W190 sf184 HC186
        have O195 := O187.wr W190 g_ba
        replace hk := Nat.le_trans hk (Keep.of_wr W190).1
        have Z196 : n0 ≤ hp190.size := Nat.le_trans Z188 (Keep.of_wr W190).1
        refine s_iload (pc' := 265) X190.here hx (hb hby at_263) rfl rfl ?_
        refine s_iconst (pc' := 266) X190.here hx (v := (3 : Int32)) (hb hby at_265) rfl rfl ?_
        have hk197 : ¬ ((3 : Int32) < (3 : Int32)) := by decide
        refine s_icmpYes (pc' := 276) X190.here hx (hb hby at_266) (flt hk197).2.2.2 (by decide) (by decide) ?_
        refine s_iload (pc' := 278) X190.here hx (hb hby at_276) rfl rfl ?_
        refine s_iconst (pc' := 279) X190.here hx (v := (1 : Int32)) (hb hby at_278) rfl rfl ?_
        have hk198 : ¬ ((3 : Int32) < (1 : Int32)) := by decide
        refine s_icmpNo (pc' := 282) X190.here hx (hb hby at_279) (flt hk198).1 rfl ?_
        refine s_iload (pc' := 284) X190.here hx (hb hby at_282) rfl rfl ?_
        refine s_iconst (pc' := 285) X190.here hx (v := (1 : Int32)) (hb hby at_284) rfl rfl ?_
        have hk199 : ¬ ((3 : Int32) < (1 : Int32)) := by decide
        refine s_icmpNo (pc' := 288) X190.here hx (hb hby at_285) (flt hk199).1 rfl ?_
        refine s_iloadN (pc' := 289) X190.here hx (hb hby at_288) rfl rfl ?_
        refine s_callS (pc' := 292) (W := 0) X190 hx hZ  hown (hw _ (List.mem_of_getElem? (i := 5) rfl)) (hw _ (List.mem_of_getElem? (i := 6) rfl)) (hw _ (List.mem_of_getElem? (i := 7) rfl)) (hw _ (List.mem_of_getElem? (i := 8) rfl)) (by decide) e190 (own_ok l Z a0 hw [] p1 hp190 n0 Z196 ) (by rw [hml]; rfl) [(.int p1)] [] rfl (lenOf own_pd7 rfl) rfl (Nat.le_of_eq rfl) (by decide) (by decide) (by decide) (by decide) rfl (hb hby at_289) fun T200 v200 Lc200 X200 hQ200 => ?_
        obtain ⟨rfl, Nq200, eh200⟩ := hQ200
        have N200 := Fr.app N190 Nq200
        show Ends p.tables e below (T200.setTop (mkF m 292 #[.val (.int p0), .val (.int p1), .val (.int p2), .val (.int p3), .val (.int p4), .val (.int m5), .val (.int n6), .val (.int (3 : Int32)), .val (.ref ba), .unset, .unset, .unset, .unset, .unset] [(.int (own_okr p1))])) _
        by_cases hk0 : (own_okr p1) = (0 : Int32)
        · refine s_ifYes (pc' := 339) X200.here hx (hb hby at_292) ((if0 _ _).trans (teq hk0).1) (by decide) (by decide) ?_
          refine s_iconst (pc' := 340) X200.here hx (v := (0 : Int32)) (hb hby at_339) rfl rfl ?_
          refine s_istore (pc' := 342) X200.here hx (l' := #[.val (.int p0), .val (.int p1), .val (.int p2), .val (.int p3), .val (.int p4), .val (.int m5), .val (.int n6), .val (.int (3 : Int32)), .val (.ref ba), .val (.int (0 : Int32)), .unset, .unset, .unset, .unset]) (hb hby at_340) rfl rfl ?_
          refine s_aload (pc' := 344) X200.here hx (hb hby at_342) rfl rfl rfl ?_
          obtain ⟨r, r01, hrr⟩ := own_pick (own_V (3 : Int32) [(.int (nar .byte (p1.toInt8.toInt32))), (.int (nar .byte (p2.toInt8.toInt32))), (.int (nar .byte (p3.toInt8.toInt32)))])
          refine s_callS (pc' := 347) (W := 0) X200 hx hZ  hown (hw _ (List.mem_of_getElem? (i := 1) rfl)) (hw _ (List.mem_of_getElem? (i := 2) rfl)) (hw _ (List.mem_of_getElem? (i := 3) rfl)) (hw _ (List.mem_of_getElem? (i := 4) rfl)) (by decide) eh200 (own_isv l Z a0 hw [] ba ka166 (3 : Int32) [(.int (nar .byte (p1.toInt8.toInt32))), (.int (nar .byte (p2.toInt8.toInt32))), (.int (nar .byte (p3.toInt8.toInt32)))] r hp190 n0 Z196 V191 r01 hrr) (by rw [hml]; rfl) [(.ref ba)] [] rfl (lenOf own_pd8 rfl) rfl (Nat.le_of_eq rfl) (by decide) (by decide) (by decide) (by decide) rfl (hb hby at_344) fun T201 v201 Lc201 X201 hQ201 => ?_
          obtain ⟨rfl, Nq201, eh201⟩ := hQ201
          have N201 := Fr.app N200 Nq201
          show Ends p.tables e below (T201.setTop (mkF m 347 #[.val (.int p0), .val (.int p1), .val (.int p2), .val (.int p3), .val (.int p4), .val (.int m5), .val (.int n6), .val (.int (3 : Int32)), .val (.ref ba), .val (.int (0 : Int32)), .unset, .unset, .unset, .unset] [(.int r)])) _
          refine s_iload (pc' := 349) X201.here hx (hb hby at_347) rfl rfl ?_
          have hk202 : r = (0 : Int32) := own_r0 r01 hrr (fun q => own_gok0 hk0 (q.2.2 0 (by decide)))
          refine s_icmpNo (pc' := 352) X201.here hx (hb hby at_349) (teq hk202).2 rfl ?_
          refine s_iconst (pc' := 353) X201.here hx (v := (1 : Int32)) (hb hby at_352) rfl rfl ?_
          refine s_goto (pc' := 357) X201.here hx (hb hby at_353) (by decide) (by decide) ?_
          obtain ⟨fs, hr, hrun, hended, hRW⟩ := X201.leaveW hS (show _ ≤ T201.heap.size from by rw [eh201]; exact hk) (v := some (.int (1 : Int32))) (fun h => by rw [Bd.returns] at h; cases h)
          refine ⟨_, _, retN X201 hx (t := .boolean) Bd.returns (by simp) (hb hby at_357) hr, hrun, hended, _, _, rfl, ?_, own_rwm hRW (by decide) (by decide)⟩
          show own_rm0_Q Z p0 p1 p2 p3 p4 ci cu cs h0 n0 _ T201.heap _
          rw [eh201]
          exact ⟨rfl, N201⟩
        · refine s_ifNo (pc' := 295) X200.here hx (hb hby at_292) ((if0 _ _).trans (feq hk0).1) rfl ?_
          refine s_iload (pc' := 297) X200.here hx (hb hby at_295) rfl rfl ?_
          refine s_iconst (pc' := 298) X200.here hx (v := (2 : Int32)) (hb hby at_297) rfl rfl ?_
          have hk203 : ¬ ((3 : Int32) < (2 : Int32)) := by decide
          refine s_icmpNo (pc' := 301) X200.here hx (hb hby at_298) (flt hk203).1 rfl ?_
          refine s_iloadN (pc' := 302) X200.here hx (hb hby at_301) rfl rfl ?_
          refine s_callS (pc' := 305) (W := 0) X200 hx hZ  hown (hw _ (List.mem_of_getElem? (i := 5) rfl)) (hw _ (List.mem_of_getElem? (i := 6) rfl)) (hw _ (List.mem_of_getElem? (i := 7) rfl)) (hw _ (List.mem_of_getElem? (i := 8) rfl)) (by decide) eh200 (own_ok l Z a0 hw [] p2 hp190 n0 Z196 ) (by rw [hml]; rfl) [(.int p2)] [] rfl (lenOf own_pd7 rfl) rfl (Nat.le_of_eq rfl) (by decide) (by decide) (by decide) (by decide) rfl (hb hby at_302) fun T204 v204 Lc204 X204 hQ204 => ?_
          obtain ⟨rfl, Nq204, eh204⟩ := hQ204
          have N204 := Fr.app N200 Nq204
          show Ends p.tables e below (T204.setTop (mkF m 305 #[.val (.int p0), .val (.int p1), .val (.int p2), .val (.int p3), .val (.int p4), .val (.int m5), .val (.int n6), .val (.int (3 : Int32)), .val (.ref ba), .unset, .unset, .unset, .unset, .unset] [(.int (own_okr p2))])) _
          by_cases hk1 : (own_okr p2) = (0 : Int32)
          · refine s_ifYes (pc' := 339) X204.here hx (hb hby at_305) ((if0 _ _).trans (teq hk1).1) (by decide) (by decide) ?_
            refine s_iconst (pc' := 340) X204.here hx (v := (0 : Int32)) (hb hby at_339) rfl rfl ?_
            refine s_istore (pc' := 342) X204.here hx (l' := #[.val (.int p0), .val (.int p1), .val (.int p2), .val (.int p3), .val (.int p4), .val (.int m5), .val (.int n6), .val (.int (3 : Int32)), .val (.ref ba), .val (.int (0 : Int32)), .unset, .unset, .unset, .unset]) (hb hby at_340) rfl rfl ?_
            refine s_aload (pc' := 344) X204.here hx (hb hby at_342) rfl rfl rfl ?_
            obtain ⟨r, r01, hrr⟩ := own_pick (own_V (3 : Int32) [(.int (nar .byte (p1.toInt8.toInt32))), (.int (nar .byte (p2.toInt8.toInt32))), (.int (nar .byte (p3.toInt8.toInt32)))])
            refine s_callS (pc' := 347) (W := 0) X204 hx hZ  hown (hw _ (List.mem_of_getElem? (i := 1) rfl)) (hw _ (List.mem_of_getElem? (i := 2) rfl)) (hw _ (List.mem_of_getElem? (i := 3) rfl)) (hw _ (List.mem_of_getElem? (i := 4) rfl)) (by decide) eh204 (own_isv l Z a0 hw [] ba ka166 (3 : Int32) [(.int (nar .byte (p1.toInt8.toInt32))), (.int (nar .byte (p2.toInt8.toInt32))), (.int (nar .byte (p3.toInt8.toInt32)))] r hp190 n0 Z196 V191 r01 hrr) (by rw [hml]; rfl) [(.ref ba)] [] rfl (lenOf own_pd8 rfl) rfl (Nat.le_of_eq rfl) (by decide) (by decide) (by decide) (by decide) rfl (hb hby at_344) fun T205 v205 Lc205 X205 hQ205 => ?_
            obtain ⟨rfl, Nq205, eh205⟩ := hQ205
            have N205 := Fr.app N204 Nq205
            show Ends p.tables e below (T205.setTop (mkF m 347 #[.val (.int p0), .val (.int p1), .val (.int p2), .val (.int p3), .val (.int p4), .val (.int m5), .val (.int n6), .val (.int (3 : Int32)), .val (.ref ba), .val (.int (0 : Int32)), .unset, .unset, .unset, .unset] [(.int r)])) _
            refine s_iload (pc' := 349) X205.here hx (hb hby at_347) rfl rfl ?_
            have hk206 : r = (0 : Int32) := own_r0 r01 hrr (fun q => own_gok0 hk1 (q.2.2 1 (by decide)))
            refine s_icmpNo (pc' := 352) X205.here hx (hb hby at_349) (teq hk206).2 rfl ?_
            refine s_iconst (pc' := 353) X205.here hx (v := (1 : Int32)) (hb hby at_352) rfl rfl ?_
            refine s_goto (pc' := 357) X205.here hx (hb hby at_353) (by decide) (by decide) ?_
            obtain ⟨fs, hr, hrun, hended, hRW⟩ := X205.leaveW hS (show _ ≤ T205.heap.size from by rw [eh205]; exact hk) (v := some (.int (1 : Int32))) (fun h => by rw [Bd.returns] at h; cases h)
            refine ⟨_, _, retN X205 hx (t := .boolean) Bd.returns (by simp) (hb hby at_357) hr, hrun, hended, _, _, rfl, ?_, own_rwm hRW (by decide) (by decide)⟩
            show own_rm0_Q Z p0 p1 p2 p3 p4 ci cu cs h0 n0 _ T205.heap _
            rw [eh205]
            exact ⟨rfl, N205⟩
          · refine s_ifNo (pc' := 308) X204.here hx (hb hby at_305) ((if0 _ _).trans (feq hk1).1) rfl ?_
            refine s_iload (pc' := 310) X204.here hx (hb hby at_308) rfl rfl ?_
            refine s_iconst (pc' := 311) X204.here hx (v := (3 : Int32)) (hb hby at_310) rfl rfl ?_
            have hk207 : ¬ ((3 : Int32) < (3 : Int32)) := by decide
            refine s_icmpNo (pc' := 314) X204.here hx (hb hby at_311) (flt hk207).1 rfl ?_
            refine s_iloadN (pc' := 315) X204.here hx (hb hby at_314) rfl rfl ?_
            refine s_callS (pc' := 318) (W := 0) X204 hx hZ  hown (hw _ (List.mem_of_getElem? (i := 5) rfl)) (hw _ (List.mem_of_getElem? (i := 6) rfl)) (hw _ (List.mem_of_getElem? (i := 7) rfl)) (hw _ (List.mem_of_getElem? (i := 8) rfl)) (by decide) eh204 (own_ok l Z a0 hw [] p3 hp190 n0 Z196 ) (by rw [hml]; rfl) [(.int p3)] [] rfl (lenOf own_pd7 rfl) rfl (Nat.le_of_eq rfl) (by decide) (by decide) (by decide) (by decide) rfl (hb hby at_315) fun T208 v208 Lc208 X208 hQ208 => ?_
            obtain ⟨rfl, Nq208, eh208⟩ := hQ208
            have N208 := Fr.app N204 Nq208
            show Ends p.tables e below (T208.setTop (mkF m 318 #[.val (.int p0), .val (.int p1), .val (.int p2), .val (.int p3), .val (.int p4), .val (.int m5), .val (.int n6), .val (.int (3 : Int32)), .val (.ref ba), .unset, .unset, .unset, .unset, .unset] [(.int (own_okr p3))])) _
            by_cases hk2 : (own_okr p3) = (0 : Int32)
            · refine s_ifYes (pc' := 339) X208.here hx (hb hby at_318) ((if0 _ _).trans (teq hk2).1) (by decide) (by decide) ?_
              refine s_iconst (pc' := 340) X208.here hx (v := (0 : Int32)) (hb hby at_339) rfl rfl ?_
              refine s_istore (pc' := 342) X208.here hx (l' := #[.val (.int p0), .val (.int p1), .val (.int p2), .val (.int p3), .val (.int p4), .val (.int m5), .val (.int n6), .val (.int (3 : Int32)), .val (.ref ba), .val (.int (0 : Int32)), .unset, .unset, .unset, .unset]) (hb hby at_340) rfl rfl ?_
              refine s_aload (pc' := 344) X208.here hx (hb hby at_342) rfl rfl rfl ?_
              obtain ⟨r, r01, hrr⟩ := own_pick (own_V (3 : Int32) [(.int (nar .byte (p1.toInt8.toInt32))), (.int (nar .byte (p2.toInt8.toInt32))), (.int (nar .byte (p3.toInt8.toInt32)))])
              refine s_callS (pc' := 347) (W := 0) X208 hx hZ  hown (hw _ (List.mem_of_getElem? (i := 1) rfl)) (hw _ (List.mem_of_getElem? (i := 2) rfl)) (hw _ (List.mem_of_getElem? (i := 3) rfl)) (hw _ (List.mem_of_getElem? (i := 4) rfl)) (by decide) eh208 (own_isv l Z a0 hw [] ba ka166 (3 : Int32) [(.int (nar .byte (p1.toInt8.toInt32))), (.int (nar .byte (p2.toInt8.toInt32))), (.int (nar .byte (p3.toInt8.toInt32)))] r hp190 n0 Z196 V191 r01 hrr) (by rw [hml]; rfl) [(.ref ba)] [] rfl (lenOf own_pd8 rfl) rfl (Nat.le_of_eq rfl) (by decide) (by decide) (by decide) (by decide) rfl (hb hby at_344) fun T209 v209 Lc209 X209 hQ209 => ?_
              obtain ⟨rfl, Nq209, eh209⟩ := hQ209
              have N209 := Fr.app N208 Nq209
              show Ends p.tables e below (T209.setTop (mkF m 347 #[.val (.int p0), .val (.int p1), .val (.int p2), .val (.int p3), .val (.int p4), .val (.int m5), .val (.int n6), .val (.int (3 : Int32)), .val (.ref ba), .val (.int (0 : Int32)), .unset, .unset, .unset, .unset] [(.int r)])) _
              refine s_iload (pc' := 349) X209.here hx (hb hby at_347) rfl rfl ?_
              have hk210 : r = (0 : Int32) := own_r0 r01 hrr (fun q => own_gok0 hk2 (q.2.2 2 (by decide)))
              refine s_icmpNo (pc' := 352) X209.here hx (hb hby at_349) (teq hk210).2 rfl ?_
              refine s_iconst (pc' := 353) X209.here hx (v := (1 : Int32)) (hb hby at_352) rfl rfl ?_
              refine s_goto (pc' := 357) X209.here hx (hb hby at_353) (by decide) (by decide) ?_
              obtain ⟨fs, hr, hrun, hended, hRW⟩ := X209.leaveW hS (show _ ≤ T209.heap.size from by rw [eh209]; exact hk) (v := some (.int (1 : Int32))) (fun h => by rw [Bd.returns] at h; cases h)
              refine ⟨_, _, retN X209 hx (t := .boolean) Bd.returns (by simp) (hb hby at_357) hr, hrun, hended, _, _, rfl, ?_, own_rwm hRW (by decide) (by decide)⟩
              show own_rm0_Q Z p0 p1 p2 p3 p4 ci cu cs h0 n0 _ T209.heap _
              rw [eh209]
              exact ⟨rfl, N209⟩
            · refine s_ifNo (pc' := 321) X208.here hx (hb hby at_318) ((if0 _ _).trans (feq hk2).1) rfl ?_
              refine s_iload (pc' := 323) X208.here hx (hb hby at_321) rfl rfl ?_
              refine s_iconst (pc' := 324) X208.here hx (v := (4 : Int32)) (hb hby at_323) rfl rfl ?_
              have hk211 : (3 : Int32) < (4 : Int32) := by decide
              refine s_icmpYes (pc' := 335) X208.here hx (hb hby at_324) (tlt hk211).1 (by decide) (by decide) ?_
              refine s_iconst (pc' := 336) X208.here hx (v := (1 : Int32)) (hb hby at_335) rfl rfl ?_
              refine s_goto (pc' := 340) X208.here hx (hb hby at_336) (by decide) (by decide) ?_
              refine s_istore (pc' := 342) X208.here hx (l' := #[.val (.int p0), .val (.int p1), .val (.int p2), .val (.int p3), .val (.int p4), .val (.int m5), .val (.int n6), .val (.int (3 : Int32)), .val (.ref ba), .val (.int (1 : Int32)), .unset, .unset, .unset, .unset]) (hb hby at_340) rfl rfl ?_
              refine s_aload (pc' := 344) X208.here hx (hb hby at_342) rfl rfl rfl ?_
              obtain ⟨r, r01, hrr⟩ := own_pick (own_V (3 : Int32) [(.int (nar .byte (p1.toInt8.toInt32))), (.int (nar .byte (p2.toInt8.toInt32))), (.int (nar .byte (p3.toInt8.toInt32)))])
              refine s_callS (pc' := 347) (W := 0) X208 hx hZ  hown (hw _ (List.mem_of_getElem? (i := 1) rfl)) (hw _ (List.mem_of_getElem? (i := 2) rfl)) (hw _ (List.mem_of_getElem? (i := 3) rfl)) (hw _ (List.mem_of_getElem? (i := 4) rfl)) (by decide) eh208 (own_isv l Z a0 hw [] ba ka166 (3 : Int32) [(.int (nar .byte (p1.toInt8.toInt32))), (.int (nar .byte (p2.toInt8.toInt32))), (.int (nar .byte (p3.toInt8.toInt32)))] r hp190 n0 Z196 V191 r01 hrr) (by rw [hml]; rfl) [(.ref ba)] [] rfl (lenOf own_pd8 rfl) rfl (Nat.le_of_eq rfl) (by decide) (by decide) (by decide) (by decide) rfl (hb hby at_344) fun T212 v212 Lc212 X212 hQ212 => ?_
              obtain ⟨rfl, Nq212, eh212⟩ := hQ212
              have N212 := Fr.app N208 Nq212
              show Ends p.tables e below (T212.setTop (mkF m 347 #[.val (.int p0), .val (.int p1), .val (.int p2), .val (.int p3), .val (.int p4), .val (.int m5), .val (.int n6), .val (.int (3 : Int32)), .val (.ref ba), .val (.int (1 : Int32)), .unset, .unset, .unset, .unset] [(.int r)])) _
              refine s_iload (pc' := 349) X212.here hx (hb hby at_347) rfl rfl ?_
              have hk213 : r = (1 : Int32) := hrr.mpr ((own_Vl rfl (by decide) (by decide)).mpr (fun v hv => by
                    simp only [List.mem_cons, List.not_mem_nil, or_false] at hv
                    rcases hv with rfl | rfl | rfl
                    · exact (own_gok _).mpr hk0
                    · exact (own_gok _).mpr hk1
                    · exact (own_gok _).mpr hk2))
              refine s_icmpNo (pc' := 352) X212.here hx (hb hby at_349) (teq hk213).2 rfl ?_
              refine s_iconst (pc' := 353) X212.here hx (v := (1 : Int32)) (hb hby at_352) rfl rfl ?_
              refine s_goto (pc' := 357) X212.here hx (hb hby at_353) (by decide) (by decide) ?_
              obtain ⟨fs, hr, hrun, hended, hRW⟩ := X212.leaveW hS (show _ ≤ T212.heap.size from by rw [eh212]; exact hk) (v := some (.int (1 : Int32))) (fun h => by rw [Bd.returns] at h; cases h)
              refine ⟨_, _, retN X212 hx (t := .boolean) Bd.returns (by simp) (hb hby at_357) hr, hrun, hended, _, _, rfl, ?_, own_rwm hRW (by decide) (by decide)⟩
              show own_rm0_Q Z p0 p1 p2 p3 p4 ci cu cs h0 n0 _ T212.heap _
              rw [eh212]
              exact ⟨rfl, N212⟩
      · subst hq_
        refine s_iload (pc' := 224) X0w.here hx (hb hby at_222) rfl rfl ?_
        refine s_newP (pc' := 226) (cap := 4) X0w hx hZ (hw _ (List.mem_of_getElem? (i := 0) rfl)) e0 (hb hby at_224) (by decide) (by decide) (by decide) (by decide) (by decide) rfl fun T214 hp214 X214 e214 ka214 E214 ba gq214 A214 => ?_
        have g_ba : n0 ≤ ba := Nat.le_trans Z0 (Nat.le_of_eq gq214.symm)
        have sf215 := Safe.ext E214 HC0 (Safe.new (Nat.le_of_eq gq214.symm))
        have HR216 := CHr.trans HR0 (CHr.ext E214 HC0)
        have HC217 := CHv.ext E214 HC0
        have O218 := O0.ext E214
        replace hk := Nat.le_trans hk E214.1
        have Z219 : n0 ≤ hp214.size := Nat.le_trans Z0 E214.1
        have V220 : Arv Z hp214 ba ka214 .byte (4 : Int32) [(.int (0 : Int32)), (.int (0 : Int32)), (.int (0 : Int32)), (.int (0 : Int32))] (.int (0 : Int32)) := (Arv.new A214 (by decide)).pad (pad_rep [] (.int (0 : Int32)) 4)
        refine s_astore (pc' := 228) X214.here hx (l' := #[.val (.int p0), .val (.int p1), .val (.int p2), .val (.int p3), .val (.int p4), .val (.int m5), .val (.int n6), .val (.int (4 : Int32)), .val (.ref ba), .unset, .unset, .unset, .unset, .unset]) (hb hby at_226) rfl rfl rfl ?_
        refine s_iload (pc' := 230) X214.here hx (hb hby at_228) rfl rfl ?_
        have hk221 : (0 : Int32) < (4 : Int32) := by decide
        refine s_ifNo (pc' := 233) X214.here hx (hb hby at_230) ((if0 _ _).trans (tlt hk221).2.2.2) rfl ?_
        refine s_aload (pc' := 235) X214.here hx (hb hby at_233) rfl rfl rfl ?_
        refine s_iconst (pc' := 236) X214.here hx (v := (0 : Int32)) (hb hby at_235) rfl rfl ?_
        refine s_iloadN (pc' := 237) X214.here hx (hb hby at_236) rfl rfl ?_
        refine s_i2b (pc' := 238) X214.here hx (hb hby at_237) rfl ?_
        refine s_putB (pc' := 239) X214 hx hZ e214 V220 ⟨by decide, by decide⟩ 0 rfl (Nat.le_of_ble_eq_true rfl) (hb hby at_238) rfl fun T222 hp222 X222 e222 W222 Vw222 => ?_
        have V223 : Arv Z hp222 ba ka214 .byte (4 : Int32) [(.int (nar .byte (p1.toInt8.toInt32))), (.int (0 : Int32)), (.int (0 : Int32)), (.int (0 : Int32))] (.int (0 : Int32)) := Vw222
        have N222 := Fr.snoc X222 N0 g_ba
        have sf224 := Safe.wr W222 sf215 HC217 sf215
        have HR225 := CHr.trans HR216 (CHr.wr W222 sf215 HC217)
        have HC226 := CHv.wr W222 sf215 HC217
        have O227 := O218.wr W222 g_ba
        replace hk := Nat.le_trans hk (Keep.of_wr W222).1
        have Z228 : n0 ≤ hp222.size := Nat.le_trans Z219 (Keep.of_wr W222).1
        refine s_iload (pc' := 241) X222.here hx (hb hby at_239) rfl rfl ?_
        refine s_iconst (pc' := 242) X222.here hx (v := (1 : Int32)) (hb hby at_241) rfl rfl ?_
        have hk229 : (1 : Int32) < (4 : Int32) := by decide
        refine s_icmpNo (pc' := 245) X222.here hx (hb hby at_242) (tlt hk229).2.2.2 rfl ?_
        refine s_aload (pc' := 247) X222.here hx (hb hby at_245) rfl rfl rfl ?_
        refine s_iconst (pc' := 248) X222.here hx (v := (1 : Int32)) (hb hby at_247) rfl rfl ?_
        refine s_iloadN (pc' := 249) X222.here hx (hb hby at_248) rfl rfl ?_
        refine s_i2b (pc' := 250) X222.here hx (hb hby at_249) rfl ?_
        refine s_putB (pc' := 251) X222 hx hZ e222 V223 ⟨by decide, by decide⟩ 1 rfl (Nat.le_of_ble_eq_true rfl) (hb hby at_250) rfl fun T230 hp230 X230 e230 W230 Vw230 => ?_
        have V231 : Arv Z hp230 ba ka214 .byte (4 : Int32) [(.int (nar .byte (p1.toInt8.toInt32))), (.int (nar .byte (p2.toInt8.toInt32))), (.int (0 : Int32)), (.int (0 : Int32))] (.int (0 : Int32)) := Vw230
        have N230 := Fr.snoc X230 N222 g_ba
        have sf232 := Safe.wr W230 sf224 HC226 sf224
        have HR233 := CHr.trans HR225 (CHr.wr W230 sf224 HC226)
        have HC234 := CHv.wr W230 sf224 HC226
        have O235 := O227.wr W230 g_ba
        replace hk := Nat.le_trans hk (Keep.of_wr W230).1
        have Z236 : n0 ≤ hp230.size := Nat.le_trans Z228 (Keep.of_wr W230).1
        refine s_iload (pc' := 253) X230.here hx (hb hby at_251) rfl rfl ?_
        refine s_iconst (pc' := 254) X230.here hx (v := (2 : Int32)) (hb hby at_253) rfl rfl ?_
        have hk237 : (2 : Int32) < (4 : Int32) := by decide
        refine s_icmpNo (pc' := 257) X230.here hx (hb hby at_254) (tlt hk237).2.2.2 rfl ?_
        refine s_aload (pc' := 259) X230.here hx (hb hby at_257) rfl rfl rfl ?_
        refine s_iconst (pc' := 260) X230.here hx (v := (2 : Int32)) (hb hby at_259) rfl rfl ?_
        refine s_iloadN (pc' := 261) X230.here hx (hb hby at_260) rfl rfl ?_
        refine s_i2b (pc' := 262) X230.here hx (hb hby at_261) rfl ?_
        refine s_putB (pc' := 263) X230 hx hZ e230 V231 ⟨by decide, by decide⟩ 2 rfl (Nat.le_of_ble_eq_true rfl) (hb hby at_262) rfl fun T238 hp238 X238 e238 W238 Vw238 => ?_
        have V239 : Arv Z hp238 ba ka214 .byte (4 : Int32) [(.int (nar .byte (p1.toInt8.toInt32))), (.int (nar .byte (p2.toInt8.toInt32))), (.int (nar .byte (p3.toInt8.toInt32))), (.int (0 : Int32))] (.int (0 : Int32)) := Vw238
        have N238 := Fr.snoc X238 N230 g_ba
        have sf240 := Safe.wr W238 sf232 HC234 sf232
        have HR241 := CHr.trans HR233 (CHr.wr W238 sf232 HC234)
        have HC242 := CHv.wr W238 sf232 HC234
        have O243 := O235.wr W238 g_ba
        replace hk := Nat.le_trans hk (Keep.of_wr W238).1
        have Z244 : n0 ≤ hp238.size := Nat.le_trans Z236 (Keep.of_wr W238).1
        refine s_iload (pc' := 265) X238.here hx (hb hby at_263) rfl rfl ?_
        refine s_iconst (pc' := 266) X238.here hx (v := (3 : Int32)) (hb hby at_265) rfl rfl ?_
        have hk245 : (3 : Int32) < (4 : Int32) := by decide
        refine s_icmpNo (pc' := 269) X238.here hx (hb hby at_266) (tlt hk245).2.2.2 rfl ?_
        refine s_aload (pc' := 271) X238.here hx (hb hby at_269) rfl rfl rfl ?_
        refine s_iconst (pc' := 272) X238.here hx (v := (3 : Int32)) (hb hby at_271) rfl rfl ?_
        refine s_iload (pc' := 274) X238.here hx (hb hby at_272) rfl rfl ?_
        refine s_i2b (pc' := 275) X238.here hx (hb hby at_274) rfl ?_
        refine s_putB (pc' := 276) X238 hx hZ e238 V239 ⟨by decide, by decide⟩ 3 rfl (Nat.le_of_ble_eq_true rfl) (hb hby at_275) rfl fun T246 hp246 X246 e246 W246 Vw246 => ?_
        have V247 : Arv Z hp246 ba ka214 .byte (4 : Int32) [(.int (nar .byte (p1.toInt8.toInt32))), (.int (nar .byte (p2.toInt8.toInt32))), (.int (nar .byte (p3.toInt8.toInt32))), (.int (nar .byte (p4.toInt8.toInt32)))] (.int (0 : Int32)) := Vw246
        have N246 := Fr.snoc X246 N238 g_ba
        have sf248 := Safe.wr W246 sf240 HC242 sf240
        have HR249 := CHr.trans HR241 (CHr.wr W246 sf240 HC242)
        have HC250 := CHv.wr W246 sf240 HC242
        have O251 := O243.wr W246 g_ba
        replace hk := Nat.le_trans hk (Keep.of_wr W246).1
        have Z252 : n0 ≤ hp246.size := Nat.le_trans Z244 (Keep.of_wr W246).1
        refine s_iload (pc' := 278) X246.here hx (hb hby at_276) rfl rfl ?_
        refine s_iconst (pc' := 279) X246.here hx (v := (1 : Int32)) (hb hby at_278) rfl rfl ?_
        have hk253 : ¬ ((4 : Int32) < (1 : Int32)) := by decide
        refine s_icmpNo (pc' := 282) X246.here hx (hb hby at_279) (flt hk253).1 rfl ?_
        refine s_iload (pc' := 284) X246.here hx (hb hby at_282) rfl rfl ?_
        refine s_iconst (pc' := 285) X246.here hx (v := (1 : Int32)) (hb hby at_284) rfl rfl ?_
        have hk254 : ¬ ((4 : Int32) < (1 : Int32)) := by decide
        refine s_icmpNo (pc' := 288) X246.here hx (hb hby at_285) (flt hk254).1 rfl ?_
        refine s_iloadN (pc' := 289) X246.here hx (hb hby at_288) rfl rfl ?_
        refine s_callS (pc' := 292) (W := 0) X246 hx hZ  hown (hw _ (List.mem_of_getElem? (i := 5) rfl)) (hw _ (List.mem_of_getElem? (i := 6) rfl)) (hw _ (List.mem_of_getElem? (i := 7) rfl)) (hw _ (List.mem_of_getElem? (i := 8) rfl)) (by decide) e246 (own_ok l Z a0 hw [] p1 hp246 n0 Z252 ) (by rw [hml]; rfl) [(.int p1)] [] rfl (lenOf own_pd7 rfl) rfl (Nat.le_of_eq rfl) (by decide) (by decide) (by decide) (by decide) rfl (hb hby at_289) fun T255 v255 Lc255 X255 hQ255 => ?_
        obtain ⟨rfl, Nq255, eh255⟩ := hQ255
        have N255 := Fr.app N246 Nq255
        show Ends p.tables e below (T255.setTop (mkF m 292 #[.val (.int p0), .val (.int p1), .val (.int p2), .val (.int p3), .val (.int p4), .val (.int m5), .val (.int n6), .val (.int (4 : Int32)), .val (.ref ba), .unset, .unset, .unset, .unset, .unset] [(.int (own_okr p1))])) _
        by_cases hk0 : (own_okr p1) = (0 : Int32)
        · refine s_ifYes (pc' := 339) X255.here hx (hb hby at_292) ((if0 _ _).trans (teq hk0).1) (by decide) (by decide) ?_
          refine s_iconst (pc' := 340) X255.here hx (v := (0 : Int32)) (hb hby at_339) rfl rfl ?_
          refine s_istore (pc' := 342) X255.here hx (l' := #[.val (.int p0), .val (.int p1), .val (.int p2), .val (.int p3), .val (.int p4), .val (.int m5), .val (.int n6), .val (.int (4 : Int32)), .val (.ref ba), .val (.int (0 : Int32)), .unset, .unset, .unset, .unset]) (hb hby at_340) rfl rfl ?_
          refine s_aload (pc' := 344) X255.here hx (hb hby at_342) rfl rfl rfl ?_
          obtain ⟨r, r01, hrr⟩ := own_pick (own_V (4 : Int32) [(.int (nar .byte (p1.toInt8.toInt32))), (.int (nar .byte (p2.toInt8.toInt32))), (.int (nar .byte (p3.toInt8.toInt32))), (.int (nar .byte (p4.toInt8.toInt32)))])
          refine s_callS (pc' := 347) (W := 0) X255 hx hZ  hown (hw _ (List.mem_of_getElem? (i := 1) rfl)) (hw _ (List.mem_of_getElem? (i := 2) rfl)) (hw _ (List.mem_of_getElem? (i := 3) rfl)) (hw _ (List.mem_of_getElem? (i := 4) rfl)) (by decide) eh255 (own_isv l Z a0 hw [] ba ka214 (4 : Int32) [(.int (nar .byte (p1.toInt8.toInt32))), (.int (nar .byte (p2.toInt8.toInt32))), (.int (nar .byte (p3.toInt8.toInt32))), (.int (nar .byte (p4.toInt8.toInt32)))] r hp246 n0 Z252 V247 r01 hrr) (by rw [hml]; rfl) [(.ref ba)] [] rfl (lenOf own_pd8 rfl) rfl (Nat.le_of_eq rfl) (by decide) (by decide) (by decide) (by decide) rfl (hb hby at_344) fun T256 v256 Lc256 X256 hQ256 => ?_
          obtain ⟨rfl, Nq256, eh256⟩ := hQ256
          have N256 := Fr.app N255 Nq256
          show Ends p.tables e below (T256.setTop (mkF m 347 #[.val (.int p0), .val (.int p1), .val (.int p2), .val (.int p3), .val (.int p4), .val (.int m5), .val (.int n6), .val (.int (4 : Int32)), .val (.ref ba), .val (.int (0 : Int32)), .unset, .unset, .unset, .unset] [(.int r)])) _
          refine s_iload (pc' := 349) X256.here hx (hb hby at_347) rfl rfl ?_
          have hk257 : r = (0 : Int32) := own_r0 r01 hrr (fun q => own_gok0 hk0 (q.2.2 0 (by decide)))
          refine s_icmpNo (pc' := 352) X256.here hx (hb hby at_349) (teq hk257).2 rfl ?_
          refine s_iconst (pc' := 353) X256.here hx (v := (1 : Int32)) (hb hby at_352) rfl rfl ?_
          refine s_goto (pc' := 357) X256.here hx (hb hby at_353) (by decide) (by decide) ?_
          obtain ⟨fs, hr, hrun, hended, hRW⟩ := X256.leaveW hS (show _ ≤ T256.heap.size from by rw [eh256]; exact hk) (v := some (.int (1 : Int32))) (fun h => by rw [Bd.returns] at h; cases h)
          refine ⟨_, _, retN X256 hx (t := .boolean) Bd.returns (by simp) (hb hby at_357) hr, hrun, hended, _, _, rfl, ?_, own_rwm hRW (by decide) (by decide)⟩
          show own_rm0_Q Z p0 p1 p2 p3 p4 ci cu cs h0 n0 _ T256.heap _
          rw [eh256]
          exact ⟨rfl, N256⟩
        · refine s_ifNo (pc' := 295) X255.here hx (hb hby at_292) ((if0 _ _).trans (feq hk0).1) rfl ?_
          refine s_iload (pc' := 297) X255.here hx (hb hby at_295) rfl rfl ?_
          refine s_iconst (pc' := 298) X255.here hx (v := (2 : Int32)) (hb hby at_297) rfl rfl ?_
          have hk258 : ¬ ((4 : Int32) < (2 : Int32)) := by decide
          refine s_icmpNo (pc' := 301) X255.here hx (hb hby at_298) (flt hk258).1 rfl ?_
          refine s_iloadN (pc' := 302) X255.here hx (hb hby at_301) rfl rfl ?_
          refine s_callS (pc' := 305) (W := 0) X255 hx hZ  hown (hw _ (List.mem_of_getElem? (i := 5) rfl)) (hw _ (List.mem_of_getElem? (i := 6) rfl)) (hw _ (List.mem_of_getElem? (i := 7) rfl)) (hw _ (List.mem_of_getElem? (i := 8) rfl)) (by decide) eh255 (own_ok l Z a0 hw [] p2 hp246 n0 Z252 ) (by rw [hml]; rfl) [(.int p2)] [] rfl (lenOf own_pd7 rfl) rfl (Nat.le_of_eq rfl) (by decide) (by decide) (by decide) (by decide) rfl (hb hby at_302) fun T259 v259 Lc259 X259 hQ259 => ?_
          obtain ⟨rfl, Nq259, eh259⟩ := hQ259
          have N259 := Fr.app N255 Nq259
          show Ends p.tables e below (T259.setTop (mkF m 305 #[.val (.int p0), .val (.int p1), .val (.int p2), .val (.int p3), .val (.int p4), .val (.int m5), .val (.int n6), .val (.int (4 : Int32)), .val (.ref ba), .unset, .unset, .unset, .unset, .unset] [(.int (own_okr p2))])) _
          by_cases hk1 : (own_okr p2) = (0 : Int32)
          · refine s_ifYes (pc' := 339) X259.here hx (hb hby at_305) ((if0 _ _).trans (teq hk1).1) (by decide) (by decide) ?_
            refine s_iconst (pc' := 340) X259.here hx (v := (0 : Int32)) (hb hby at_339) rfl rfl ?_
            refine s_istore (pc' := 342) X259.here hx (l' := #[.val (.int p0), .val (.int p1), .val (.int p2), .val (.int p3), .val (.int p4), .val (.int m5), .val (.int n6), .val (.int (4 : Int32)), .val (.ref ba), .val (.int (0 : Int32)), .unset, .unset, .unset, .unset]) (hb hby at_340) rfl rfl ?_
            refine s_aload (pc' := 344) X259.here hx (hb hby at_342) rfl rfl rfl ?_
            obtain ⟨r, r01, hrr⟩ := own_pick (own_V (4 : Int32) [(.int (nar .byte (p1.toInt8.toInt32))), (.int (nar .byte (p2.toInt8.toInt32))), (.int (nar .byte (p3.toInt8.toInt32))), (.int (nar .byte (p4.toInt8.toInt32)))])
            refine s_callS (pc' := 347) (W := 0) X259 hx hZ  hown (hw _ (List.mem_of_getElem? (i := 1) rfl)) (hw _ (List.mem_of_getElem? (i := 2) rfl)) (hw _ (List.mem_of_getElem? (i := 3) rfl)) (hw _ (List.mem_of_getElem? (i := 4) rfl)) (by decide) eh259 (own_isv l Z a0 hw [] ba ka214 (4 : Int32) [(.int (nar .byte (p1.toInt8.toInt32))), (.int (nar .byte (p2.toInt8.toInt32))), (.int (nar .byte (p3.toInt8.toInt32))), (.int (nar .byte (p4.toInt8.toInt32)))] r hp246 n0 Z252 V247 r01 hrr) (by rw [hml]; rfl) [(.ref ba)] [] rfl (lenOf own_pd8 rfl) rfl (Nat.le_of_eq rfl) (by decide) (by decide) (by decide) (by decide) rfl (hb hby at_344) fun T260 v260 Lc260 X260 hQ260 => ?_
            obtain ⟨rfl, Nq260, eh260⟩ := hQ260
            have N260 := Fr.app N259 Nq260
            show Ends p.tables e below (T260.setTop (mkF m 347 #[.val (.int p0), .val (.int p1), .val (.int p2), .val (.int p3), .val (.int p4), .val (.int m5), .val (.int n6), .val (.int (4 : Int32)), .val (.ref ba), .val (.int (0 : Int32)), .unset, .unset, .unset, .unset] [(.int r)])) _
            refine s_iload (pc' := 349) X260.here hx (hb hby at_347) rfl rfl ?_
            have hk261 : r = (0 : Int32) := own_r0 r01 hrr (fun q => own_gok0 hk1 (q.2.2 1 (by decide)))
            refine s_icmpNo (pc' := 352) X260.here hx (hb hby at_349) (teq hk261).2 rfl ?_
            refine s_iconst (pc' := 353) X260.here hx (v := (1 : Int32)) (hb hby at_352) rfl rfl ?_
            refine s_goto (pc' := 357) X260.here hx (hb hby at_353) (by decide) (by decide) ?_
            obtain ⟨fs, hr, hrun, hended, hRW⟩ := X260.leaveW hS (show _ ≤ T260.heap.size from by rw [eh260]; exact hk) (v := some (.int (1 : Int32))) (fun h => by rw [Bd.returns] at h; cases h)
            refine ⟨_, _, retN X260 hx (t := .boolean) Bd.returns (by simp) (hb hby at_357) hr, hrun, hended, _, _, rfl, ?_, own_rwm hRW (by decide) (by decide)⟩
            show own_rm0_Q Z p0 p1 p2 p3 p4 ci cu cs h0 n0 _ T260.heap _
            rw [eh260]
            exact ⟨rfl, N260⟩
          · refine s_ifNo (pc' := 308) X259.here hx (hb hby at_305) ((if0 _ _).trans (feq hk1).1) rfl ?_
            refine s_iload (pc' := 310) X259.here hx (hb hby at_308) rfl rfl ?_
            refine s_iconst (pc' := 311) X259.here hx (v := (3 : Int32)) (hb hby at_310) rfl rfl ?_
            have hk262 : ¬ ((4 : Int32) < (3 : Int32)) := by decide
            refine s_icmpNo (pc' := 314) X259.here hx (hb hby at_311) (flt hk262).1 rfl ?_
            refine s_iloadN (pc' := 315) X259.here hx (hb hby at_314) rfl rfl ?_
            refine s_callS (pc' := 318) (W := 0) X259 hx hZ  hown (hw _ (List.mem_of_getElem? (i := 5) rfl)) (hw _ (List.mem_of_getElem? (i := 6) rfl)) (hw _ (List.mem_of_getElem? (i := 7) rfl)) (hw _ (List.mem_of_getElem? (i := 8) rfl)) (by decide) eh259 (own_ok l Z a0 hw [] p3 hp246 n0 Z252 ) (by rw [hml]; rfl) [(.int p3)] [] rfl (lenOf own_pd7 rfl) rfl (Nat.le_of_eq rfl) (by decide) (by decide) (by decide) (by decide) rfl (hb hby at_315) fun T263 v263 Lc263 X263 hQ263 => ?_
            obtain ⟨rfl, Nq263, eh263⟩ := hQ263
            have N263 := Fr.app N259 Nq263
            show Ends p.tables e below (T263.setTop (mkF m 318 #[.val (.int p0), .val (.int p1), .val (.int p2), .val (.int p3), .val (.int p4), .val (.int m5), .val (.int n6), .val (.int (4 : Int32)), .val (.ref ba), .unset, .unset, .unset, .unset, .unset] [(.int (own_okr p3))])) _
            by_cases hk2 : (own_okr p3) = (0 : Int32)
            · refine s_ifYes (pc' := 339) X263.here hx (hb hby at_318) ((if0 _ _).trans (teq hk2).1) (by decide) (by decide) ?_
              refine s_iconst (pc' := 340) X263.here hx (v := (0 : Int32)) (hb hby at_339) rfl rfl ?_
              refine s_istore (pc' := 342) X263.here hx (l' := #[.val (.int p0), .val (.int p1), .val (.int p2), .val (.int p3), .val (.int p4), .val (.int m5), .val (.int n6), .val (.int (4 : Int32)), .val (.ref ba), .val (.int (0 : Int32)), .unset, .unset, .unset, .unset]) (hb hby at_340) rfl rfl ?_
              refine s_aload (pc' := 344) X263.here hx (hb hby at_342) rfl rfl rfl ?_
              obtain ⟨r, r01, hrr⟩ := own_pick (own_V (4 : Int32) [(.int (nar .byte (p1.toInt8.toInt32))), (.int (nar .byte (p2.toInt8.toInt32))), (.int (nar .byte (p3.toInt8.toInt32))), (.int (nar .byte (p4.toInt8.toInt32)))])
              refine s_callS (pc' := 347) (W := 0) X263 hx hZ  hown (hw _ (List.mem_of_getElem? (i := 1) rfl)) (hw _ (List.mem_of_getElem? (i := 2) rfl)) (hw _ (List.mem_of_getElem? (i := 3) rfl)) (hw _ (List.mem_of_getElem? (i := 4) rfl)) (by decide) eh263 (own_isv l Z a0 hw [] ba ka214 (4 : Int32) [(.int (nar .byte (p1.toInt8.toInt32))), (.int (nar .byte (p2.toInt8.toInt32))), (.int (nar .byte (p3.toInt8.toInt32))), (.int (nar .byte (p4.toInt8.toInt32)))] r hp246 n0 Z252 V247 r01 hrr) (by rw [hml]; rfl) [(.ref ba)] [] rfl (lenOf own_pd8 rfl) rfl (Nat.le_of_eq rfl) (by decide) (by decide) (by decide) (by decide) rfl (hb hby at_344) fun T264 v264 Lc264 X264 hQ264 => ?_
              obtain ⟨rfl, Nq264, eh264⟩ := hQ264
              have N264 := Fr.app N263 Nq264
              show Ends p.tables e below (T264.setTop (mkF m 347 #[.val (.int p0), .val (.int p1), .val (.int p2), .val (.int p3), .val (.int p4), .val (.int m5), .val (.int n6), .val (.int (4 : Int32)), .val (.ref ba), .val (.int (0 : Int32)), .unset, .unset, .unset, .unset] [(.int r)])) _
              refine s_iload (pc' := 349) X264.here hx (hb hby at_347) rfl rfl ?_
              have hk265 : r = (0 : Int32) := own_r0 r01 hrr (fun q => own_gok0 hk2 (q.2.2 2 (by decide)))
              refine s_icmpNo (pc' := 352) X264.here hx (hb hby at_349) (teq hk265).2 rfl ?_
              refine s_iconst (pc' := 353) X264.here hx (v := (1 : Int32)) (hb hby at_352) rfl rfl ?_
              refine s_goto (pc' := 357) X264.here hx (hb hby at_353) (by decide) (by decide) ?_
              obtain ⟨fs, hr, hrun, hended, hRW⟩ := X264.leaveW hS (show _ ≤ T264.heap.size from by rw [eh264]; exact hk) (v := some (.int (1 : Int32))) (fun h => by rw [Bd.returns] at h; cases h)
              refine ⟨_, _, retN X264 hx (t := .boolean) Bd.returns (by simp) (hb hby at_357) hr, hrun, hended, _, _, rfl, ?_, own_rwm hRW (by decide) (by decide)⟩
              show own_rm0_Q Z p0 p1 p2 p3 p4 ci cu cs h0 n0 _ T264.heap _
              rw [eh264]
              exact ⟨rfl, N264⟩
            · refine s_ifNo (pc' := 321) X263.here hx (hb hby at_318) ((if0 _ _).trans (feq hk2).1) rfl ?_
              refine s_iload (pc' := 323) X263.here hx (hb hby at_321) rfl rfl ?_
              refine s_iconst (pc' := 324) X263.here hx (v := (4 : Int32)) (hb hby at_323) rfl rfl ?_
              have hk266 : ¬ ((4 : Int32) < (4 : Int32)) := by decide
              refine s_icmpNo (pc' := 327) X263.here hx (hb hby at_324) (flt hk266).1 rfl ?_
              refine s_iload (pc' := 329) X263.here hx (hb hby at_327) rfl rfl ?_
              refine s_callS (pc' := 332) (W := 0) X263 hx hZ  hown (hw _ (List.mem_of_getElem? (i := 5) rfl)) (hw _ (List.mem_of_getElem? (i := 6) rfl)) (hw _ (List.mem_of_getElem? (i := 7) rfl)) (hw _ (List.mem_of_getElem? (i := 8) rfl)) (by decide) eh263 (own_ok l Z a0 hw [] p4 hp246 n0 Z252 ) (by rw [hml]; rfl) [(.int p4)] [] rfl (lenOf own_pd7 rfl) rfl (Nat.le_of_eq rfl) (by decide) (by decide) (by decide) (by decide) rfl (hb hby at_329) fun T267 v267 Lc267 X267 hQ267 => ?_
              obtain ⟨rfl, Nq267, eh267⟩ := hQ267
              have N267 := Fr.app N263 Nq267
              show Ends p.tables e below (T267.setTop (mkF m 332 #[.val (.int p0), .val (.int p1), .val (.int p2), .val (.int p3), .val (.int p4), .val (.int m5), .val (.int n6), .val (.int (4 : Int32)), .val (.ref ba), .unset, .unset, .unset, .unset, .unset] [(.int (own_okr p4))])) _
              by_cases hk3 : (own_okr p4) = (0 : Int32)
              · refine s_ifYes (pc' := 339) X267.here hx (hb hby at_332) ((if0 _ _).trans (teq hk3).1) (by decide) (by decide) ?_
                refine s_iconst (pc' := 340) X267.here hx (v := (0 : Int32)) (hb hby at_339) rfl rfl ?_
                refine s_istore (pc' := 342) X267.here hx (l' := #[.val (.int p0), .val (.int p1), .val (.int p2), .val (.int p3), .val (.int p4), .val (.int m5), .val (.int n6), .val (.int (4 : Int32)), .val (.ref ba), .val (.int (0 : Int32)), .unset, .unset, .unset, .unset]) (hb hby at_340) rfl rfl ?_
                refine s_aload (pc' := 344) X267.here hx (hb hby at_342) rfl rfl rfl ?_
                obtain ⟨r, r01, hrr⟩ := own_pick (own_V (4 : Int32) [(.int (nar .byte (p1.toInt8.toInt32))), (.int (nar .byte (p2.toInt8.toInt32))), (.int (nar .byte (p3.toInt8.toInt32))), (.int (nar .byte (p4.toInt8.toInt32)))])
                refine s_callS (pc' := 347) (W := 0) X267 hx hZ  hown (hw _ (List.mem_of_getElem? (i := 1) rfl)) (hw _ (List.mem_of_getElem? (i := 2) rfl)) (hw _ (List.mem_of_getElem? (i := 3) rfl)) (hw _ (List.mem_of_getElem? (i := 4) rfl)) (by decide) eh267 (own_isv l Z a0 hw [] ba ka214 (4 : Int32) [(.int (nar .byte (p1.toInt8.toInt32))), (.int (nar .byte (p2.toInt8.toInt32))), (.int (nar .byte (p3.toInt8.toInt32))), (.int (nar .byte (p4.toInt8.toInt32)))] r hp246 n0 Z252 V247 r01 hrr) (by rw [hml]; rfl) [(.ref ba)] [] rfl (lenOf own_pd8 rfl) rfl (Nat.le_of_eq rfl) (by decide) (by decide) (by decide) (by decide) rfl (hb hby at_344) fun T268 v268 Lc268 X268 hQ268 => ?_
                obtain ⟨rfl, Nq268, eh268⟩ := hQ268
                have N268 := Fr.app N267 Nq268
                show Ends p.tables e below (T268.setTop (mkF m 347 #[.val (.int p0), .val (.int p1), .val (.int p2), .val (.int p3), .val (.int p4), .val (.int m5), .val (.int n6), .val (.int (4 : Int32)), .val (.ref ba), .val (.int (0 : Int32)), .unset, .unset, .unset, .unset] [(.int r)])) _
                refine s_iload (pc' := 349) X268.here hx (hb hby at_347) rfl rfl ?_
                have hk269 : r = (0 : Int32) := own_r0 r01 hrr (fun q => own_gok0 hk3 (q.2.2 3 (by decide)))
                refine s_icmpNo (pc' := 352) X268.here hx (hb hby at_349) (teq hk269).2 rfl ?_
                refine s_iconst (pc' := 353) X268.here hx (v := (1 : Int32)) (hb hby at_352) rfl rfl ?_
                refine s_goto (pc' := 357) X268.here hx (hb hby at_353) (by decide) (by decide) ?_
                obtain ⟨fs, hr, hrun, hended, hRW⟩ := X268.leaveW hS (show _ ≤ T268.heap.size from by rw [eh268]; exact hk) (v := some (.int (1 : Int32))) (fun h => by rw [Bd.returns] at h; cases h)
                refine ⟨_, _, retN X268 hx (t := .boolean) Bd.returns (by simp) (hb hby at_357) hr, hrun, hended, _, _, rfl, ?_, own_rwm hRW (by decide) (by decide)⟩
                show own_rm0_Q Z p0 p1 p2 p3 p4 ci cu cs h0 n0 _ T268.heap _
                rw [eh268]
                exact ⟨rfl, N268⟩
              · refine s_ifNo (pc' := 335) X267.here hx (hb hby at_332) ((if0 _ _).trans (feq hk3).1) rfl ?_
                refine s_iconst (pc' := 336) X267.here hx (v := (1 : Int32)) (hb hby at_335) rfl rfl ?_
                refine s_goto (pc' := 340) X267.here hx (hb hby at_336) (by decide) (by decide) ?_
                refine s_istore (pc' := 342) X267.here hx (l' := #[.val (.int p0), .val (.int p1), .val (.int p2), .val (.int p3), .val (.int p4), .val (.int m5), .val (.int n6), .val (.int (4 : Int32)), .val (.ref ba), .val (.int (1 : Int32)), .unset, .unset, .unset, .unset]) (hb hby at_340) rfl rfl ?_
                refine s_aload (pc' := 344) X267.here hx (hb hby at_342) rfl rfl rfl ?_
                obtain ⟨r, r01, hrr⟩ := own_pick (own_V (4 : Int32) [(.int (nar .byte (p1.toInt8.toInt32))), (.int (nar .byte (p2.toInt8.toInt32))), (.int (nar .byte (p3.toInt8.toInt32))), (.int (nar .byte (p4.toInt8.toInt32)))])
                refine s_callS (pc' := 347) (W := 0) X267 hx hZ  hown (hw _ (List.mem_of_getElem? (i := 1) rfl)) (hw _ (List.mem_of_getElem? (i := 2) rfl)) (hw _ (List.mem_of_getElem? (i := 3) rfl)) (hw _ (List.mem_of_getElem? (i := 4) rfl)) (by decide) eh267 (own_isv l Z a0 hw [] ba ka214 (4 : Int32) [(.int (nar .byte (p1.toInt8.toInt32))), (.int (nar .byte (p2.toInt8.toInt32))), (.int (nar .byte (p3.toInt8.toInt32))), (.int (nar .byte (p4.toInt8.toInt32)))] r hp246 n0 Z252 V247 r01 hrr) (by rw [hml]; rfl) [(.ref ba)] [] rfl (lenOf own_pd8 rfl) rfl (Nat.le_of_eq rfl) (by decide) (by decide) (by decide) (by decide) rfl (hb hby at_344) fun T270 v270 Lc270 X270 hQ270 => ?_
                obtain ⟨rfl, Nq270, eh270⟩ := hQ270
                have N270 := Fr.app N267 Nq270
                show Ends p.tables e below (T270.setTop (mkF m 347 #[.val (.int p0), .val (.int p1), .val (.int p2), .val (.int p3), .val (.int p4), .val (.int m5), .val (.int n6), .val (.int (4 : Int32)), .val (.ref ba), .val (.int (1 : Int32)), .unset, .unset, .unset, .unset] [(.int r)])) _
                refine s_iload (pc' := 349) X270.here hx (hb hby at_347) rfl rfl ?_
                have hk271 : r = (1 : Int32) := hrr.mpr ((own_Vl rfl (by decide) (by decide)).mpr (fun v hv => by
                      simp only [List.mem_cons, List.not_mem_nil, or_false] at hv
                      rcases hv with rfl | rfl | rfl | rfl
                      · exact (own_gok _).mpr hk0
                      · exact (own_gok _).mpr hk1
                      · exact (own_gok _).mpr hk2
                      · exact (own_gok _).mpr hk3))
                refine s_icmpNo (pc' := 352) X270.here hx (hb hby at_349) (teq hk271).2 rfl ?_
                refine s_iconst (pc' := 353) X270.here hx (v := (1 : Int32)) (hb hby at_352) rfl rfl ?_
                refine s_goto (pc' := 357) X270.here hx (hb hby at_353) (by decide) (by decide) ?_
                obtain ⟨fs, hr, hrun, hended, hRW⟩ := X270.leaveW hS (show _ ≤ T270.heap.size from by rw [eh270]; exact hk) (v := some (.int (1 : Int32))) (fun h => by rw [Bd.returns] at h; cases h)
                refine ⟨_, _, retN X270 hx (t := .boolean) Bd.returns (by simp) (hb hby at_357) hr, hrun, hended, _, _, rfl, ?_, own_rwm hRW (by decide) (by decide)⟩
                show own_rm0_Q Z p0 p1 p2 p3 p4 ci cu cs h0 n0 _ T270.heap _
                rw [eh270]
                exact ⟨rfl, N270⟩
set_option maxRecDepth 65536 in
set_option maxHeartbeats 40000000 in
theorem comes_1 {Post : Tables → Env → Array Value → State → Outcome → State → Prop} (hpost : ∀ tb e args s v u, (limb_1_1.after args s (.returned v) u = true ∧ limb_1_2.after args s (.returned v) u = true ∧ True) → ReturnedEndW s (.returned v) u (Jvm.fieldLocs frame_1_writes args s ++ Jvm.arrayLocs frame_1_arrays args s ++ Jvm.staticLocs frame_1_statics s) 16 3200 → Post tb e args s (.returned v) u) :
    ArmFor flags0 classFile x code maxLocals ret World_1 tables_1 room_1 Calls_1 rest_1 Pre_1 Post := by
  intro l hfl _ _ p e ha hc hk s m args below hf hA hF happ hP
  obtain ⟨hcalls, hrest, hpre⟩ := hP
  obtain ⟨-, -, -, hnamed, -, -, -, hat⟩ := (Spec.applies_iff hf).mp happ
  obtain ⟨hg, hn⟩ := and_e (Cond.before_iff.mp (show (Jvm.Cond.and given_1 narrow_1).before args s = true from hpre))
  obtain ⟨gg2, gg3⟩ := and_e hg
  obtain ⟨gg4, gg5⟩ := and_e gg3
  obtain ⟨gg6, gg7⟩ := and_e gg5
  obtain ⟨gg8, gg9⟩ := and_e gg7
  obtain ⟨gg10, gg11⟩ := and_e gg9
  obtain ⟨w0, w1, w2, w3, w4, rfl⟩ : ∃ w0 w1 w2 w3 w4 : Value, args = #[w0, w1, w2, w3, w4] := by
    have hs : args.size = 5 := by simpa [Cond.value, given_1] using gg2
    obtain ⟨L⟩ := args
    match L, hs with
    | [w0, w1, w2, w3, w4], _ => exact ⟨w0, w1, w2, w3, w4, rfl⟩
  have hw := fun d (hd : d ∈ tables_1) => atoms_spec (ws := Jvm.Cond.code x code maxLocals ret :: tables_1) hat d (List.mem_cons_of_mem _ hd)
  have hfit : Fit s := fun {y c} hc i hi => by
    obtain ⟨ha, rfl⟩ := Array.getElem?_eq_some_iff.mp hc
    have q := List.all_eq_true.mp ((Array.all_eq_true_iff_forall_mem.mp hF) _ (Array.getElem_mem ha)) i (List.mem_range.mpr hi)
    simpa [Array.getElem?_eq_getElem hi] using q
  obtain ⟨hsets, hown0⟩ := atoms_of _ (rest_1_c_eq ▸ (show rest_1_c.before _ s = true from hrest))
  have hr0 := Cond.before_iff.mp hown0
  obtain ⟨i0, ei0⟩ := is_v gg4
  obtain rfl : w0 = (.int i0) := Option.some.inj ei0
  obtain ⟨i1, ei1⟩ := is_v gg6
  obtain rfl : w1 = (.int i1) := Option.some.inj ei1
  obtain ⟨i2, ei2⟩ := is_v gg8
  obtain rfl : w2 = (.int i2) := Option.some.inj ei2
  obtain ⟨i3, ei3⟩ := is_v gg10
  obtain rfl : w3 = (.int i3) := Option.some.inj ei3
  obtain ⟨i4, ei4⟩ := is_v gg11
  obtain rfl : w4 = (.int i4) := Option.some.inj ei4
  obtain ⟨cs, evcs⟩ := is_v (Cond.before_iff.mp (hsets _ (List.mem_of_getElem? (i := 7) rfl)))
  have S_cs := Sta.start evcs (Or.inl (hsets _ (List.mem_of_getElem? (i := 6) rfl)))
  have hcs : ¬ cs = (0 : Int32) := fun q_ => by
    have z_ := (Cond.before_iff.mp (hsets _ (List.mem_of_getElem? (i := 8) rfl)))
    subst q_
    simp [Cond.value, evcs, Term.int_eval] at z_
  obtain ⟨ci, evci⟩ := exa_v (Cond.before_iff.mp (hsets _ (List.mem_of_getElem? (i := 5) rfl)))
  have Eci := Exa.start evci (Cond.before_iff.mp (hsets _ (List.mem_of_getElem? (i := 5) rfl)))
  obtain ⟨cj, evcj⟩ := exa_v (Cond.before_iff.mp (hsets _ (List.mem_of_getElem? (i := 20) rfl)))
  have eij := gotT (eq_R evci evcj rfl rfl) (Cond.before_iff.mp (hsets _ (List.mem_of_getElem? (i := 4) rfl)))
  cases eij
  obtain ⟨cu, evcu⟩ := exa_v (Cond.before_iff.mp (hsets _ (List.mem_of_getElem? (i := 17) rfl)))
  have Ecu := Exa.start evcu (Cond.before_iff.mp (hsets _ (List.mem_of_getElem? (i := 17) rfl)))
  have ne_c : ¬ ci = cu := Exa.ne Eci Ecu (by decide)
  have S_s := Sta.start evci (Or.inl (hsets _ (List.mem_of_getElem? (i := 1) rfl)))
  have S_i := Sta.start evcj (Or.inl (hsets _ (List.mem_of_getElem? (i := 3) rfl)))
  have S_u := Sta.start evcu (Or.inl (hsets _ (List.mem_of_getElem? (i := 16) rfl)))
  have hcv : CHv s consts_1 s.vm s.heap := CHv.start (own_EW hw) (fun p_ hp_ => hcalls.1 p_ hp_) (hsets _ (List.mem_of_getElem? (i := 8) rfl)) (hw _ (List.mem_of_getElem? (i := 0) rfl)) (hw _ (List.mem_of_getElem? (i := 14) rfl))
  obtain ⟨n, o, h1, h2, h3, _, L, rfl, ⟨rfl, N⟩, hq⟩ := own_rm0 l s _ hw tables_1 i0 i1 i2 i3 i4 ci cu cs s.heap s.heap.size (Nat.le_refl _) (Old.start s) S_cs hcs S_i S_u S_s ne_c p e ha hc hk s m _ below hf ((Spec.applies_iff_loose hf).mp happ).1 ⟨rfl, State.Warmed39.refl s, rfl, hcv, fun _ q_ => nomatch q_⟩ trivial
  refine ⟨n, _, h1, h2, h3, hpost _ _ _ _ _ _ ⟨Cond.after_iff.mpr rfl, Cond.after_iff.mpr (eq_i res_at (Term.int_eval (1)) rfl), trivial⟩ ⟨hq.1, hq.2.1, hq.2.2.1, (hq.2.2.2.sift fun y hy => Or.inr (N y hy)).mono (by decide) (by decide)⟩⟩
theorem main_1_1 : Claimed_1_1 := comes_1 fun _ _ _ _ _ _ h hF => ⟨h.1, hF⟩
theorem main_1_2 : Claimed_1_2 := comes_1 fun _ _ _ _ _ _ h hF => ⟨h.2.1, hF⟩
end Jvm.Pilot.@@N@@
namespace Jvm.Pilot.@@N@@
open Jvm Jvm.ClassFile Sem Op Lib Jvm.Free Jvm.Stand Jvm.Pilot.@@N@@.Jvm.D
/-! MADE BY PROGRAM (witnessworld.py) out of the Statement's table words and the real class files: 23 classes; the members and pool entries that the words name. The judged class is class 1, her method 3. -/
namespace start1
open Jvm.ClassFile
def u (s : String) : CpInfo := .utf8 (stringToUtf16 s)
/-- a pool by its gaps: so many unusable entries, then the entry; so many at the end -/
def gap : Nat → List CpInfo → List CpInfo
  | 0, r => r
  | n + 1, r => .unusable :: gap n r
def poolList (es : List (Nat × CpInfo)) (last : Nat) : List CpInfo := es.foldr (fun e r => gap e.1 (e.2 :: r)) (gap last [])
def pool (es : List (Nat × CpInfo)) (last : Nat) : Array CpInfo := ⟨poolList es last⟩
def fileOf (pool : Array CpInfo) (this : Nat) (attrs : Array Attribute := #[]) (ms : Array MethodInfo := #[]) (fl : Nat := 33) (sup : Nat := 0) (ifs : Array Nat := #[]) (fds : Array FieldInfo := #[]) : ClassFile where
  minorVersion := 0
  majorVersion := 65
  constantPool := pool
  accessFlags := fl
  thisClass := this
  superClass := sup
  interfaces := ifs
  fields := fds
  methods := ms
  attributes := attrs
def plain (name : String) (sup : Option ClassId) : Class where
  name := name
  kind := .ordinary
  loader := none
  accessFlags := 33
  super := sup
  interfaces := #[]
  cf := none
  fields := #[]
  methods := #[]
  instanceTypes := #[]
  staticTypes := #[]
  resolved := #[]
  callSites := []
  init := .initialized
  statics := none
  mirror := none

def pool0 : Array CpInfo := pool [(5, u "<init>"), (0, u "()V"), (1, .class_ 10), (1, u "java/lang/Object"), (85, u "clone"), (0, u "()Ljava/lang/Object;")] 26

def k0m0 : Method := { name := "<init>", desc := "()V", sig := { parameters := [], returnType := none }, accessFlags := 1, code := none }
def k0m1 : Method := { name := "clone", desc := "()Ljava/lang/Object;", sig := { parameters := [], returnType := some (.object "java/lang/Object") }, accessFlags := 260, code := none }
/-- java/lang/Object -/
def k0 : Class := { plain "java/lang/Object" none with
  accessFlags := 33
  interfaces := #[]
  cf := some (fileOf pool0 8 #[] #[{ accessFlags := 1, nameIndex := 5, descriptorIndex := 6, attributes := #[] }, { accessFlags := 260, nameIndex := 96, descriptorIndex := 97, attributes := #[] }] 33 0 #[] #[])
  fields := #[]
  methods := #[k0m0, k0m1]
  instanceTypes := #[]
  staticTypes := #[]
  resolved := Array.replicate 124 none
  statics := none }

def pool1 : Array CpInfo := pool [(2, .class_ 4), (1, u "java/lang/Object"), (0, u "<init>"), (0, u "()V"), (0, .string 8), (0, u "0123456789012345678901234567890123456789012345678901234567890123456789012345678901234567890123456789012345678901234567890123456789012345678901234567890123456789012345678901234567890123456789012345678901234567890123456789012345678901234567890123456789X"), (0, .methodref 10 11), (0, .class_ 12), (0, .nameAndType 13 14), (0, u "tallykeep/engine/Keys"), (0, u "unmapped"), (0, u "(Ljava/lang/String;)[B"), (0, .string 16), (0, u "0123456789012345678901234567890123456789012345678901234567890123456789012345678901234567890123456789012345678901234567890123456789012345678901234567890123456789012345678901234567890123456789012345678901234567890123456789012345678901234567890123456789"), (0, .methodref 18 19), (0, .class_ 20), (0, .nameAndType 21 22), (0, u "tallykeep/engine/KeysIsValidPinLaw"), (0, u "digits"), (0, u "(Z)[B"), (0, .integer 2147483647), (0, .methodref 18 25), (0, .nameAndType 26 27), (0, u "ok"), (0, u "(I)Z"), (0, .methodref 10 29), (0, .nameAndType 30 31), (0, u "isValid"), (0, u "([B)Z"), (3, u "law"), (0, u "(IIIII)Z")] 4

def k1m0 : Method := { name := "<init>", desc := "()V", sig := { parameters := [], returnType := none }, accessFlags := 2, code := none }
def k1c1 : Code := { maxStack := 2, maxLocals := 2, code := method_2_code, exceptionTable := #[], attributes := #[] }
def k1m1 : Method := { name := "ok", desc := "(I)Z", sig := { parameters := [.int], returnType := some .boolean }, accessFlags := 10, code := some k1c1 }
def k1c2 : Code := { maxStack := 1, maxLocals := 1, code := method_3_code, exceptionTable := #[], attributes := #[] }
def k1m2 : Method := { name := "digits", desc := "(Z)[B", sig := { parameters := [.boolean], returnType := some (.array .byte) }, accessFlags := 10, code := some k1c2 }
def k1c3 : Code := { maxStack := 3, maxLocals := 14, code := code, exceptionTable := #[], attributes := #[] }
def k1m3 : Method := { name := "law", desc := "(IIIII)Z", sig := { parameters := [.int, .int, .int, .int, .int], returnType := some .boolean }, accessFlags := 9, code := some k1c3 }
/-- tallykeep/engine/KeysIsValidPinLaw -/
def k1 : Class := { plain "tallykeep/engine/KeysIsValidPinLaw" (some 0) with
  accessFlags := 49
  interfaces := #[]
  cf := some (fileOf pool1 18 #[] #[{ accessFlags := 2, nameIndex := 5, descriptorIndex := 6, attributes := #[] }, { accessFlags := 10, nameIndex := 26, descriptorIndex := 27, attributes := #[] }, { accessFlags := 10, nameIndex := 21, descriptorIndex := 22, attributes := #[] }, { accessFlags := 9, nameIndex := 35, descriptorIndex := 36, attributes := #[] }] 49 2 #[] #[])
  fields := #[]
  methods := #[k1m0, k1m1, k1m2, k1m3]
  instanceTypes := #[]
  staticTypes := #[]
  resolved := Array.replicate 41 none
  statics := none }

def pool2 : Array CpInfo := pool [(2, .class_ 4), (1, u "java/lang/Object"), (0, u "<init>"), (0, u "()V"), (0, .class_ 8), (0, u "tallykeep/engine/Keys"), (2, u "isValid"), (0, u "([B)Z"), (7, .class_ 21), (0, u "java/lang/String"), (0, .fieldref 23 24), (0, .class_ 25), (0, .nameAndType 26 27), (0, u "java/nio/charset/StandardCharsets"), (0, u "ISO_8859_1"), (0, u "Ljava/nio/charset/Charset;"), (3, .methodref 20 32), (0, .nameAndType 33 34), (0, u "getBytes"), (0, u "(Ljava/nio/charset/Charset;)[B"), (0, u "MAX_LENGTH"), (0, u "I"), (9, u "unmapped"), (0, u "(Ljava/lang/String;)[B")] 2

def k2m0 : Method := { name := "<init>", desc := "()V", sig := { parameters := [], returnType := none }, accessFlags := 2, code := none }
def k2c1 : Code := { maxStack := 2, maxLocals := 5, code := prog_13_method_2_code, exceptionTable := #[], attributes := #[] }
def k2m1 : Method := { name := "isValid", desc := "([B)Z", sig := { parameters := [(.array .byte)], returnType := some .boolean }, accessFlags := 9, code := some k2c1 }
def k2c2 : Code := { maxStack := 2, maxLocals := 1, code := prog_13_method_4_code, exceptionTable := #[], attributes := #[] }
def k2m2 : Method := { name := "unmapped", desc := "(Ljava/lang/String;)[B", sig := { parameters := [(.object "java/lang/String")], returnType := some (.array .byte) }, accessFlags := 8, code := some k2c2 }
/-- tallykeep/engine/Keys -/
def k2 : Class := { plain "tallykeep/engine/Keys" (some 0) with
  accessFlags := 49
  interfaces := #[]
  cf := some (fileOf pool2 7 #[] #[{ accessFlags := 2, nameIndex := 5, descriptorIndex := 6, attributes := #[] }, { accessFlags := 9, nameIndex := 11, descriptorIndex := 12, attributes := #[] }, { accessFlags := 8, nameIndex := 46, descriptorIndex := 47, attributes := #[] }] 49 2 #[] #[{ accessFlags := 25, nameIndex := 35, descriptorIndex := 36, attributes := #[] }])
  fields := #[{ name := "MAX_LENGTH", type := .int, accessFlags := 25, slot := 0, constantValue := 0 }]
  methods := #[k2m0, k2m1, k2m2]
  instanceTypes := #[]
  staticTypes := #[.int]
  resolved := Array.replicate 50 none
  statics := none }

def pool3 : Array CpInfo := pool [(1, .class_ 2), (0, u "java/io/Serializable"), (0, .class_ 4), (0, u "java/lang/Object")] 2

/-- java/io/Serializable -/
def k3 : Class := { plain "java/io/Serializable" (some 0) with
  accessFlags := 1537
  interfaces := #[]
  cf := some (fileOf pool3 1 #[] #[] 1537 3 #[] #[])
  fields := #[]
  methods := #[]
  instanceTypes := #[]
  staticTypes := #[]
  resolved := Array.replicate 7 none
  statics := none }

def pool4 : Array CpInfo := pool [(1, .class_ 2), (0, u "java/lang/Comparable"), (0, .class_ 4), (0, u "java/lang/Object")] 7

/-- java/lang/Comparable -/
def k4 : Class := { plain "java/lang/Comparable" (some 0) with
  accessFlags := 1537
  interfaces := #[]
  cf := some (fileOf pool4 1 #[] #[] 1537 3 #[] #[])
  fields := #[]
  methods := #[]
  instanceTypes := #[]
  staticTypes := #[]
  resolved := Array.replicate 12 none
  statics := none }

def pool5 : Array CpInfo := pool [(2, .class_ 4), (1, u "java/lang/CharSequence"), (42, .class_ 48), (0, u "java/lang/CharSequence$1CodePointIterator"), (10, .class_ 60), (0, u "java/lang/CharSequence$1CharIterator"), (5, .class_ 67), (0, u "java/lang/Object")] 63

/-- java/lang/CharSequence -/
def k5 : Class := { plain "java/lang/CharSequence" (some 0) with
  accessFlags := 1537
  interfaces := #[]
  cf := some (fileOf pool5 2 #[.nestMembers #[47, 59]] #[] 1537 66 #[] #[])
  fields := #[]
  methods := #[]
  instanceTypes := #[]
  staticTypes := #[]
  resolved := Array.replicate 131 none
  statics := none }

def pool6 : Array CpInfo := pool [(1, .class_ 2), (0, u "java/lang/constant/Constable"), (0, .class_ 4), (0, u "java/lang/Object")] 6

/-- java/lang/constant/Constable -/
def k6 : Class := { plain "java/lang/constant/Constable" (some 0) with
  accessFlags := 1537
  interfaces := #[]
  cf := some (fileOf pool6 1 #[] #[] 1537 3 #[] #[])
  fields := #[]
  methods := #[]
  instanceTypes := #[]
  staticTypes := #[]
  resolved := Array.replicate 11 none
  statics := none }

def pool7 : Array CpInfo := pool [(1, .class_ 2), (0, u "java/lang/constant/ConstantDesc"), (0, .class_ 4), (0, u "java/lang/Object")] 32

/-- java/lang/constant/ConstantDesc -/
def k7 : Class := { plain "java/lang/constant/ConstantDesc" (some 0) with
  accessFlags := 1537
  interfaces := #[]
  cf := some (fileOf pool7 1 #[] #[] 1537 3 #[] #[])
  fields := #[]
  methods := #[]
  instanceTypes := #[]
  staticTypes := #[]
  resolved := Array.replicate 37 none
  statics := none }

def pool8 : Array CpInfo := pool [(2, .class_ 4), (1, u "java/lang/Object"), (0, u "<init>"), (0, u "()V"), (2, .fieldref 10 11), (0, .class_ 12), (0, .nameAndType 13 14), (0, u "java/lang/String"), (0, u "value"), (0, u "[B"), (0, .fieldref 10 16), (0, .nameAndType 17 18), (0, u "coder"), (0, u "B"), (2, u "hash"), (0, u "I"), (2, u "hashIsZero"), (0, u "Z"), (11, .fieldref 10 39), (0, .nameAndType 40 26), (0, u "COMPACT_STRINGS"), (45, .fieldref 87 88), (0, .class_ 89), (0, .nameAndType 90 91), (0, u "sun/nio/cs/UTF_8"), (0, u "INSTANCE"), (0, u "Lsun/nio/cs/UTF_8;"), (24, .fieldref 117 118), (0, .class_ 119), (0, .nameAndType 90 120), (0, u "sun/nio/cs/ISO_8859_1"), (0, u "Lsun/nio/cs/ISO_8859_1;"), (134, u "(B[BZ)[B"), (0, .methodref 10 257), (0, .nameAndType 258 259), (0, u "encode8859_1"), (0, u "(B[B)[B"), (19, .methodref 280 281), (0, .class_ 14), (0, .nameAndType 282 283), (0, u "clone"), (0, u "()Ljava/lang/Object;"), (33, u "encode"), (17, .methodref 10 336), (0, .nameAndType 17 337), (0, u "()B"), (13, .methodref 10 352), (0, .nameAndType 258 255), (179, u "getBytes"), (2, .methodref 10 536), (0, .nameAndType 317 537), (0, u "(Ljava/nio/charset/Charset;B[B)[B"), (37, .class_ 576), (0, u "java/lang/CharSequence"), (22, u "CASE_INSENSITIVE_ORDER"), (0, u "Ljava/util/Comparator;"), (500, u "serialPersistentFields"), (0, u "[Ljava/io/ObjectStreamField;"), (0, .class_ 1104), (0, u "java/lang/String$CaseInsensitiveComparator"), (1, .class_ 1107), (0, u "java/io/Serializable"), (0, .class_ 1109), (0, u "java/lang/Comparable"), (0, .class_ 1111), (0, u "java/lang/constant/Constable"), (0, .class_ 1113), (0, u "java/lang/constant/ConstantDesc"), (2, u "serialVersionUID"), (0, u "J"), (3, u "REPL"), (0, u "C"), (2, u "LATIN1"), (1, u "UTF16"), (117, u "(Ljava/nio/charset/Charset;)[B")] 205

def k8m0 : Method := { name := "<init>", desc := "()V", sig := { parameters := [], returnType := none }, accessFlags := 1, code := none }
def k8c1 : Code := { maxStack := 4, maxLocals := 3, code := jdk_42_method_18_code, exceptionTable := #[], attributes := #[] }
def k8m1 : Method := { name := "encode", desc := "(Ljava/nio/charset/Charset;B[B)[B", sig := { parameters := [(.object "java/nio/charset/Charset"), .byte, (.array .byte)], returnType := some (.array .byte) }, accessFlags := 10, code := some k8c1 }
def k8c2 : Code := { maxStack := 3, maxLocals := 2, code := jdk_42_method_26_code, exceptionTable := #[], attributes := #[] }
def k8m2 : Method := { name := "encode8859_1", desc := "(B[B)[B", sig := { parameters := [.byte, (.array .byte)], returnType := some (.array .byte) }, accessFlags := 10, code := some k8c2 }
def k8c3 : Code := { maxStack := 5, maxLocals := 10, code := jdk_42_method_27_code, exceptionTable := #[], attributes := #[] }
def k8m3 : Method := { name := "encode8859_1", desc := "(B[BZ)[B", sig := { parameters := [.byte, (.array .byte), .boolean], returnType := some (.array .byte) }, accessFlags := 10, code := some k8c3 }
def k8c4 : Code := { maxStack := 3, maxLocals := 2, code := jdk_42_method_64_code, exceptionTable := #[], attributes := #[] }
def k8m4 : Method := { name := "getBytes", desc := "(Ljava/nio/charset/Charset;)[B", sig := { parameters := [(.object "java/nio/charset/Charset")], returnType := some (.array .byte) }, accessFlags := 1, code := some k8c4 }
def k8c5 : Code := { maxStack := 1, maxLocals := 1, code := jdk_42_method_152_code, exceptionTable := #[], attributes := #[] }
def k8m5 : Method := { name := "coder", desc := "()B", sig := { parameters := [], returnType := some .byte }, accessFlags := 0, code := some k8c5 }
/-- java/lang/String -/
def k8 : Class := { plain "java/lang/String" (some 0) with
  accessFlags := 49
  interfaces := #[3, 4, 5, 6, 7]
  cf := some (fileOf pool8 10 #[.nestMembers #[1103]] #[{ accessFlags := 1, nameIndex := 5, descriptorIndex := 6, attributes := #[] }, { accessFlags := 10, nameIndex := 317, descriptorIndex := 537, attributes := #[] }, { accessFlags := 10, nameIndex := 258, descriptorIndex := 259, attributes := #[] }, { accessFlags := 10, nameIndex := 258, descriptorIndex := 255, attributes := #[] }, { accessFlags := 1, nameIndex := 532, descriptorIndex := 1245, attributes := #[] }, { accessFlags := 0, nameIndex := 17, descriptorIndex := 337, attributes := #[] }] 49 2 #[1106, 1108, 575, 1110, 1112] #[{ accessFlags := 18, nameIndex := 13, descriptorIndex := 14, attributes := #[] }, { accessFlags := 18, nameIndex := 17, descriptorIndex := 18, attributes := #[] }, { accessFlags := 2, nameIndex := 21, descriptorIndex := 22, attributes := #[] }, { accessFlags := 2, nameIndex := 25, descriptorIndex := 26, attributes := #[] }, { accessFlags := 26, nameIndex := 1116, descriptorIndex := 1117, attributes := #[] }, { accessFlags := 24, nameIndex := 40, descriptorIndex := 26, attributes := #[] }, { accessFlags := 26, nameIndex := 1101, descriptorIndex := 1102, attributes := #[] }, { accessFlags := 26, nameIndex := 1121, descriptorIndex := 1122, attributes := #[] }, { accessFlags := 25, nameIndex := 599, descriptorIndex := 600, attributes := #[] }, { accessFlags := 24, nameIndex := 1125, descriptorIndex := 18, attributes := #[] }, { accessFlags := 24, nameIndex := 1127, descriptorIndex := 18, attributes := #[] }])
  fields := #[{ name := "value", type := (.array .byte), accessFlags := 18, slot := 0, constantValue := 0 }, { name := "coder", type := .byte, accessFlags := 18, slot := 1, constantValue := 0 }, { name := "hash", type := .int, accessFlags := 2, slot := 2, constantValue := 0 }, { name := "hashIsZero", type := .boolean, accessFlags := 2, slot := 3, constantValue := 0 }, { name := "serialVersionUID", type := .long, accessFlags := 26, slot := 0, constantValue := 0 }, { name := "COMPACT_STRINGS", type := .boolean, accessFlags := 24, slot := 1, constantValue := 0 }, { name := "serialPersistentFields", type := (.array (.object "java/io/ObjectStreamField")), accessFlags := 26, slot := 2, constantValue := 0 }, { name := "REPL", type := .char, accessFlags := 26, slot := 3, constantValue := 0 }, { name := "CASE_INSENSITIVE_ORDER", type := (.object "java/util/Comparator"), accessFlags := 25, slot := 4, constantValue := 0 }, { name := "LATIN1", type := .byte, accessFlags := 24, slot := 5, constantValue := 0 }, { name := "UTF16", type := .byte, accessFlags := 24, slot := 6, constantValue := 0 }]
  methods := #[k8m0, k8m1, k8m2, k8m3, k8m4, k8m5]
  instanceTypes := #[(.array .byte), .byte, .int, .boolean]
  staticTypes := #[.long, .boolean, (.array (.object "java/io/ObjectStreamField")), .char, (.object "java/util/Comparator"), .byte, .byte]
  resolved := Array.replicate 1451 none
  statics := some 0 }

def pool9 : Array CpInfo := pool [(2, .class_ 4), (1, u "java/lang/Object"), (0, u "<init>"), (0, u "()V"), (14, .class_ 23), (1, u "java/nio/charset/StandardCharsets"), (0, u "US_ASCII"), (0, u "Ljava/nio/charset/Charset;"), (7, u "ISO_8859_1"), (7, u "UTF_8"), (5, u "UTF_16BE"), (5, u "UTF_16LE"), (5, u "UTF_16")] 8

def k9m0 : Method := { name := "<init>", desc := "()V", sig := { parameters := [], returnType := none }, accessFlags := 2, code := none }
/-- java/nio/charset/StandardCharsets -/
def k9 : Class := { plain "java/nio/charset/StandardCharsets" (some 0) with
  accessFlags := 49
  interfaces := #[]
  cf := some (fileOf pool9 21 #[] #[{ accessFlags := 2, nameIndex := 5, descriptorIndex := 6, attributes := #[] }] 49 2 #[] #[{ accessFlags := 25, nameIndex := 24, descriptorIndex := 25, attributes := #[] }, { accessFlags := 25, nameIndex := 33, descriptorIndex := 25, attributes := #[] }, { accessFlags := 25, nameIndex := 41, descriptorIndex := 25, attributes := #[] }, { accessFlags := 25, nameIndex := 47, descriptorIndex := 25, attributes := #[] }, { accessFlags := 25, nameIndex := 53, descriptorIndex := 25, attributes := #[] }, { accessFlags := 25, nameIndex := 59, descriptorIndex := 25, attributes := #[] }])
  fields := #[{ name := "US_ASCII", type := (.object "java/nio/charset/Charset"), accessFlags := 25, slot := 0, constantValue := 0 }, { name := "ISO_8859_1", type := (.object "java/nio/charset/Charset"), accessFlags := 25, slot := 1, constantValue := 0 }, { name := "UTF_8", type := (.object "java/nio/charset/Charset"), accessFlags := 25, slot := 2, constantValue := 0 }, { name := "UTF_16BE", type := (.object "java/nio/charset/Charset"), accessFlags := 25, slot := 3, constantValue := 0 }, { name := "UTF_16LE", type := (.object "java/nio/charset/Charset"), accessFlags := 25, slot := 4, constantValue := 0 }, { name := "UTF_16", type := (.object "java/nio/charset/Charset"), accessFlags := 25, slot := 5, constantValue := 0 }]
  methods := #[k9m0]
  instanceTypes := #[]
  staticTypes := #[(.object "java/nio/charset/Charset"), (.object "java/nio/charset/Charset"), (.object "java/nio/charset/Charset"), (.object "java/nio/charset/Charset"), (.object "java/nio/charset/Charset"), (.object "java/nio/charset/Charset")]
  resolved := Array.replicate 68 none
  statics := some 1 }

def pool10 : Array CpInfo := pool [(18, .class_ 20), (1, u "java/nio/charset/Charset"), (0, u "cache1"), (0, u "[Ljava/lang/Object;"), (2, u "cache2"), (0, .class_ 27), (0, u "java/lang/Object"), (0, .class_ 29), (0, u "java/nio/charset/Charset$1"), (4, .class_ 36), (1, u "java/nio/charset/Charset$ThreadTrackHolder"), (21, .class_ 59), (0, u "java/nio/charset/Charset$2"), (11, .class_ 73), (1, u "java/nio/charset/Charset$ExtendedProviderHolder"), (22, u "standardProvider"), (0, u "Ljava/nio/charset/spi/CharsetProvider;"), (29, u "name"), (7, .class_ 136), (0, u "java/nio/charset/Charset$3"), (5, u "defaultCharset"), (0, u "Ljava/nio/charset/Charset;"), (14, u "zeroAliases"), (0, u "[Ljava/lang/String;"), (29, u "Ljava/lang/String;"), (2, u "aliases"), (2, u "aliasSet"), (0, u "Ljava/util/Set;"), (82, .class_ 280), (0, u "java/lang/Comparable"), (84, .class_ 366), (0, u "java/nio/charset/Charset$ExtendedProviderHolder$1")] 3

/-- java/nio/charset/Charset -/
def k10 : Class := { plain "java/nio/charset/Charset" (some 0) with
  accessFlags := 1057
  interfaces := #[4]
  cf := some (fileOf pool10 18 #[.nestMembers #[71, 365, 34, 135, 58, 28]] #[] 1057 26 #[279] #[{ accessFlags := 26, nameIndex := 96, descriptorIndex := 97, attributes := #[] }, { accessFlags := 26, nameIndex := 158, descriptorIndex := 159, attributes := #[] }, { accessFlags := 74, nameIndex := 21, descriptorIndex := 22, attributes := #[] }, { accessFlags := 74, nameIndex := 25, descriptorIndex := 22, attributes := #[] }, { accessFlags := 10, nameIndex := 142, descriptorIndex := 143, attributes := #[] }, { accessFlags := 18, nameIndex := 127, descriptorIndex := 189, attributes := #[] }, { accessFlags := 18, nameIndex := 192, descriptorIndex := 159, attributes := #[] }, { accessFlags := 2, nameIndex := 195, descriptorIndex := 196, attributes := #[] }])
  fields := #[{ name := "standardProvider", type := (.object "java/nio/charset/spi/CharsetProvider"), accessFlags := 26, slot := 0, constantValue := 0 }, { name := "zeroAliases", type := (.array (.object "java/lang/String")), accessFlags := 26, slot := 1, constantValue := 0 }, { name := "cache1", type := (.array (.object "java/lang/Object")), accessFlags := 74, slot := 2, constantValue := 0 }, { name := "cache2", type := (.array (.object "java/lang/Object")), accessFlags := 74, slot := 3, constantValue := 0 }, { name := "defaultCharset", type := (.object "java/nio/charset/Charset"), accessFlags := 10, slot := 4, constantValue := 0 }, { name := "name", type := (.object "java/lang/String"), accessFlags := 18, slot := 0, constantValue := 0 }, { name := "aliases", type := (.array (.object "java/lang/String")), accessFlags := 18, slot := 1, constantValue := 0 }, { name := "aliasSet", type := (.object "java/util/Set"), accessFlags := 2, slot := 2, constantValue := 0 }]
  methods := #[]
  instanceTypes := #[(.object "java/lang/String"), (.array (.object "java/lang/String")), (.object "java/util/Set")]
  staticTypes := #[(.object "java/nio/charset/spi/CharsetProvider"), (.array (.object "java/lang/String")), (.array (.object "java/lang/Object")), (.array (.object "java/lang/Object")), (.object "java/nio/charset/Charset")]
  resolved := Array.replicate 370 none
  statics := none }

def pool11 : Array CpInfo := pool [(1, .class_ 2), (0, u "sun/nio/cs/HistoricallyNamedCharset"), (0, .class_ 4), (0, u "java/lang/Object")] 4

/-- sun/nio/cs/HistoricallyNamedCharset -/
def k11 : Class := { plain "sun/nio/cs/HistoricallyNamedCharset" (some 0) with
  accessFlags := 1537
  interfaces := #[]
  cf := some (fileOf pool11 1 #[] #[] 1537 3 #[] #[])
  fields := #[]
  methods := #[]
  instanceTypes := #[]
  staticTypes := #[]
  resolved := Array.replicate 9 none
  statics := none }

def pool12 : Array CpInfo := pool [(2, .class_ 4), (1, u "java/nio/charset/Charset"), (130, .class_ 136), (0, u "sun/nio/cs/Unicode"), (0, .class_ 138), (0, u "sun/nio/cs/HistoricallyNamedCharset")] 15

/-- sun/nio/cs/Unicode -/
def k12 : Class := { plain "sun/nio/cs/Unicode" (some 10) with
  accessFlags := 1056
  interfaces := #[11]
  cf := some (fileOf pool12 135 #[] #[] 1056 2 #[137] #[])
  fields := #[]
  methods := #[]
  instanceTypes := #[(.object "java/lang/String"), (.array (.object "java/lang/String")), (.object "java/util/Set")]
  staticTypes := #[]
  resolved := Array.replicate 154 none
  statics := none }

def pool13 : Array CpInfo := pool [(10, .class_ 12), (1, u "sun/nio/cs/Unicode"), (0, u "<init>"), (3, .class_ 18), (0, u "sun/nio/cs/UTF_8$Decoder"), (3, .class_ 23), (0, u "sun/nio/cs/UTF_8$Encoder"), (15, .class_ 40), (0, u "sun/nio/cs/UTF_8"), (2, u "()V"), (2, u "INSTANCE"), (0, u "Lsun/nio/cs/UTF_8;"), (8, u "JLA"), (0, u "Ljdk/internal/access/JavaLangAccess;")] 26

def k13m0 : Method := { name := "<init>", desc := "()V", sig := { parameters := [], returnType := none }, accessFlags := 1, code := none }
/-- sun/nio/cs/UTF_8 -/
def k13 : Class := { plain "sun/nio/cs/UTF_8" (some 12) with
  accessFlags := 49
  interfaces := #[]
  cf := some (fileOf pool13 39 #[.nestMembers #[22, 17]] #[{ accessFlags := 1, nameIndex := 13, descriptorIndex := 43, attributes := #[] }] 49 10 #[] #[{ accessFlags := 25, nameIndex := 46, descriptorIndex := 47, attributes := #[] }, { accessFlags := 26, nameIndex := 56, descriptorIndex := 57, attributes := #[] }])
  fields := #[{ name := "INSTANCE", type := (.object "sun/nio/cs/UTF_8"), accessFlags := 25, slot := 0, constantValue := 0 }, { name := "JLA", type := (.object "jdk/internal/access/JavaLangAccess"), accessFlags := 26, slot := 1, constantValue := 0 }]
  methods := #[k13m0]
  instanceTypes := #[(.object "java/lang/String"), (.array (.object "java/lang/String")), (.object "java/util/Set")]
  staticTypes := #[(.object "sun/nio/cs/UTF_8"), (.object "jdk/internal/access/JavaLangAccess")]
  resolved := Array.replicate 84 none
  statics := some 2 }

def pool14 : Array CpInfo := pool [(10, .class_ 12), (1, u "java/nio/charset/Charset"), (0, u "<init>"), (5, .class_ 20), (0, u "sun/nio/cs/ISO_8859_1"), (0, .class_ 22), (0, u "sun/nio/cs/ISO_8859_1$Decoder"), (3, .class_ 27), (0, u "sun/nio/cs/ISO_8859_1$Encoder"), (3, u "()V"), (2, u "INSTANCE"), (0, u "Lsun/nio/cs/ISO_8859_1;"), (0, .class_ 37), (0, u "sun/nio/cs/HistoricallyNamedCharset")] 22

def k14m0 : Method := { name := "<init>", desc := "()V", sig := { parameters := [], returnType := none }, accessFlags := 1, code := none }
/-- sun/nio/cs/ISO_8859_1 -/
def k14 : Class := { plain "sun/nio/cs/ISO_8859_1" (some 10) with
  accessFlags := 33
  interfaces := #[11]
  cf := some (fileOf pool14 19 #[.nestMembers #[26, 21]] #[{ accessFlags := 1, nameIndex := 13, descriptorIndex := 31, attributes := #[] }] 33 10 #[36] #[{ accessFlags := 25, nameIndex := 34, descriptorIndex := 35, attributes := #[] }])
  fields := #[{ name := "INSTANCE", type := (.object "sun/nio/cs/ISO_8859_1"), accessFlags := 25, slot := 0, constantValue := 0 }]
  methods := #[k14m0]
  instanceTypes := #[(.object "java/lang/String"), (.array (.object "java/lang/String")), (.object "java/util/Set")]
  staticTypes := #[(.object "sun/nio/cs/ISO_8859_1")]
  resolved := Array.replicate 60 none
  statics := some 3 }

def pool15 : Array CpInfo := pool [(1, .class_ 2), (0, u "java/lang/Cloneable"), (0, .class_ 4), (0, u "java/lang/Object")] 2

/-- java/lang/Cloneable -/
def k15 : Class := { plain "java/lang/Cloneable" (some 0) with
  accessFlags := 1537
  interfaces := #[]
  cf := some (fileOf pool15 1 #[] #[] 1537 3 #[] #[])
  fields := #[]
  methods := #[]
  instanceTypes := #[]
  staticTypes := #[]
  resolved := Array.replicate 7 none
  statics := none }

def pool16 : Array CpInfo := pool [(4, .class_ 6), (1, u "java/lang/Object"), (0, u "<init>"), (0, u "()V"), (5, .class_ 16), (1, u "java/lang/StringLatin1"), (104, u "$assertionsDisabled"), (0, u "Z"), (98, .class_ 223), (1, u "java/lang/StringLatin1$LinesSpliterator"), (166, .class_ 391), (0, u "java/lang/StringLatin1$CharsSpliterator")] 3

def k16m0 : Method := { name := "<init>", desc := "()V", sig := { parameters := [], returnType := none }, accessFlags := 0, code := none }
/-- java/lang/StringLatin1 -/
def k16 : Class := { plain "java/lang/StringLatin1" (some 0) with
  accessFlags := 48
  interfaces := #[]
  cf := some (fileOf pool16 14 #[.nestMembers #[390, 221]] #[{ accessFlags := 0, nameIndex := 7, descriptorIndex := 8, attributes := #[] }] 48 4 #[] #[{ accessFlags := 4120, nameIndex := 121, descriptorIndex := 122, attributes := #[] }])
  fields := #[{ name := "$assertionsDisabled", type := .boolean, accessFlags := 4120, slot := 0, constantValue := 0 }]
  methods := #[k16m0]
  instanceTypes := #[]
  staticTypes := #[.boolean]
  resolved := Array.replicate 395 none
  statics := none }

def pool17 : Array CpInfo := pool [(2, .class_ 4), (1, u "java/lang/Object"), (0, u "<init>"), (0, u "()V"), (17, .class_ 26), (1, u "jdk/internal/util/Preconditions"), (28, .class_ 56), (0, u "jdk/internal/util/Preconditions$4"), (57, .class_ 115), (0, u "jdk/internal/util/Preconditions$1"), (7, u "SIOOBE_FORMATTER"), (0, u "Ljava/util/function/BiFunction;"), (0, .class_ 126), (0, u "jdk/internal/util/Preconditions$2"), (3, u "AIOOBE_FORMATTER"), (0, .class_ 132), (0, u "jdk/internal/util/Preconditions$3"), (3, u "IOOBE_FORMATTER")] 57

def k17m0 : Method := { name := "<init>", desc := "()V", sig := { parameters := [], returnType := none }, accessFlags := 1, code := none }
/-- jdk/internal/util/Preconditions -/
def k17 : Class := { plain "jdk/internal/util/Preconditions" (some 0) with
  accessFlags := 33
  interfaces := #[]
  cf := some (fileOf pool17 24 #[.nestMembers #[55, 131, 125, 114]] #[{ accessFlags := 1, nameIndex := 5, descriptorIndex := 6, attributes := #[] }] 33 2 #[] #[{ accessFlags := 25, nameIndex := 123, descriptorIndex := 124, attributes := #[] }, { accessFlags := 25, nameIndex := 130, descriptorIndex := 124, attributes := #[] }, { accessFlags := 25, nameIndex := 136, descriptorIndex := 124, attributes := #[] }])
  fields := #[{ name := "SIOOBE_FORMATTER", type := (.object "java/util/function/BiFunction"), accessFlags := 25, slot := 0, constantValue := 0 }, { name := "AIOOBE_FORMATTER", type := (.object "java/util/function/BiFunction"), accessFlags := 25, slot := 1, constantValue := 0 }, { name := "IOOBE_FORMATTER", type := (.object "java/util/function/BiFunction"), accessFlags := 25, slot := 2, constantValue := 0 }]
  methods := #[k17m0]
  instanceTypes := #[]
  staticTypes := #[(.object "java/util/function/BiFunction"), (.object "java/util/function/BiFunction"), (.object "java/util/function/BiFunction")]
  resolved := Array.replicate 194 none
  statics := some 4 }

def pool18 : Array CpInfo := pool [(9, u "<init>"), (6, .class_ 18), (1, u "java/lang/Object"), (0, u "()V"), (1, .class_ 23), (1, u "jdk/internal/util/ArraysSupport"), (0, u "LOG2_ARRAY_LONG_INDEX_SCALE"), (0, u "I"), (2, u "U"), (0, u "Ljdk/internal/misc/Unsafe;"), (8, u "BIG_ENDIAN"), (0, u "Z"), (8, u "LOG2_BYTE_BIT_SIZE"), (4, u "LOG2_ARRAY_INT_INDEX_SCALE"), (54, u "JLA"), (0, u "Ljdk/internal/access/JavaLangAccess;"), (11, u "LOG2_ARRAY_BOOLEAN_INDEX_SCALE"), (9, u "LOG2_ARRAY_BYTE_INDEX_SCALE"), (5, u "LOG2_ARRAY_CHAR_INDEX_SCALE"), (5, u "LOG2_ARRAY_SHORT_INDEX_SCALE"), (18, u "LOG2_ARRAY_FLOAT_INDEX_SCALE"), (24, u "LOG2_ARRAY_DOUBLE_INDEX_SCALE"), (89, u "T_BOOLEAN"), (2, u "T_CHAR"), (1, u "T_FLOAT"), (1, u "T_DOUBLE"), (1, u "T_BYTE"), (1, u "T_SHORT"), (1, u "T_INT"), (1, u "T_LONG"), (1, u "SOFT_MAX_ARRAY_LENGTH")] 83

def k18m0 : Method := { name := "<init>", desc := "()V", sig := { parameters := [], returnType := none }, accessFlags := 2, code := none }
/-- jdk/internal/util/ArraysSupport -/
def k18 : Class := { plain "jdk/internal/util/ArraysSupport" (some 0) with
  accessFlags := 33
  interfaces := #[]
  cf := some (fileOf pool18 21 #[] #[{ accessFlags := 2, nameIndex := 9, descriptorIndex := 19, attributes := #[] }] 33 16 #[] #[{ accessFlags := 24, nameIndex := 28, descriptorIndex := 29, attributes := #[] }, { accessFlags := 26, nameIndex := 38, descriptorIndex := 39, attributes := #[] }, { accessFlags := 25, nameIndex := 121, descriptorIndex := 25, attributes := #[] }, { accessFlags := 25, nameIndex := 131, descriptorIndex := 25, attributes := #[] }, { accessFlags := 25, nameIndex := 137, descriptorIndex := 25, attributes := #[] }, { accessFlags := 25, nameIndex := 143, descriptorIndex := 25, attributes := #[] }, { accessFlags := 25, nameIndex := 53, descriptorIndex := 25, attributes := #[] }, { accessFlags := 25, nameIndex := 24, descriptorIndex := 25, attributes := #[] }, { accessFlags := 25, nameIndex := 162, descriptorIndex := 25, attributes := #[] }, { accessFlags := 25, nameIndex := 187, descriptorIndex := 25, attributes := #[] }, { accessFlags := 26, nameIndex := 48, descriptorIndex := 25, attributes := #[] }, { accessFlags := 25, nameIndex := 277, descriptorIndex := 25, attributes := #[] }, { accessFlags := 25, nameIndex := 280, descriptorIndex := 25, attributes := #[] }, { accessFlags := 25, nameIndex := 282, descriptorIndex := 25, attributes := #[] }, { accessFlags := 25, nameIndex := 284, descriptorIndex := 25, attributes := #[] }, { accessFlags := 25, nameIndex := 286, descriptorIndex := 25, attributes := #[] }, { accessFlags := 25, nameIndex := 288, descriptorIndex := 25, attributes := #[] }, { accessFlags := 25, nameIndex := 290, descriptorIndex := 25, attributes := #[] }, { accessFlags := 25, nameIndex := 292, descriptorIndex := 25, attributes := #[] }, { accessFlags := 26, nameIndex := 108, descriptorIndex := 109, attributes := #[] }, { accessFlags := 25, nameIndex := 294, descriptorIndex := 25, attributes := #[] }])
  fields := #[{ name := "U", type := (.object "jdk/internal/misc/Unsafe"), accessFlags := 24, slot := 0, constantValue := 0 }, { name := "BIG_ENDIAN", type := .boolean, accessFlags := 26, slot := 1, constantValue := 0 }, { name := "LOG2_ARRAY_BOOLEAN_INDEX_SCALE", type := .int, accessFlags := 25, slot := 2, constantValue := 0 }, { name := "LOG2_ARRAY_BYTE_INDEX_SCALE", type := .int, accessFlags := 25, slot := 3, constantValue := 0 }, { name := "LOG2_ARRAY_CHAR_INDEX_SCALE", type := .int, accessFlags := 25, slot := 4, constantValue := 0 }, { name := "LOG2_ARRAY_SHORT_INDEX_SCALE", type := .int, accessFlags := 25, slot := 5, constantValue := 0 }, { name := "LOG2_ARRAY_INT_INDEX_SCALE", type := .int, accessFlags := 25, slot := 6, constantValue := 0 }, { name := "LOG2_ARRAY_LONG_INDEX_SCALE", type := .int, accessFlags := 25, slot := 7, constantValue := 0 }, { name := "LOG2_ARRAY_FLOAT_INDEX_SCALE", type := .int, accessFlags := 25, slot := 8, constantValue := 0 }, { name := "LOG2_ARRAY_DOUBLE_INDEX_SCALE", type := .int, accessFlags := 25, slot := 9, constantValue := 0 }, { name := "LOG2_BYTE_BIT_SIZE", type := .int, accessFlags := 26, slot := 10, constantValue := 0 }, { name := "T_BOOLEAN", type := .int, accessFlags := 25, slot := 11, constantValue := 0 }, { name := "T_CHAR", type := .int, accessFlags := 25, slot := 12, constantValue := 0 }, { name := "T_FLOAT", type := .int, accessFlags := 25, slot := 13, constantValue := 0 }, { name := "T_DOUBLE", type := .int, accessFlags := 25, slot := 14, constantValue := 0 }, { name := "T_BYTE", type := .int, accessFlags := 25, slot := 15, constantValue := 0 }, { name := "T_SHORT", type := .int, accessFlags := 25, slot := 16, constantValue := 0 }, { name := "T_INT", type := .int, accessFlags := 25, slot := 17, constantValue := 0 }, { name := "T_LONG", type := .int, accessFlags := 25, slot := 18, constantValue := 0 }, { name := "JLA", type := (.object "jdk/internal/access/JavaLangAccess"), accessFlags := 26, slot := 19, constantValue := 0 }, { name := "SOFT_MAX_ARRAY_LENGTH", type := .int, accessFlags := 25, slot := 20, constantValue := 0 }]
  methods := #[k18m0]
  instanceTypes := #[]
  staticTypes := #[(.object "jdk/internal/misc/Unsafe"), .boolean, .int, .int, .int, .int, .int, .int, .int, .int, .int, .int, .int, .int, .int, .int, .int, .int, .int, (.object "jdk/internal/access/JavaLangAccess"), .int]
  resolved := Array.replicate 378 none
  statics := none }

/-- the primitive byte -/
def k19 : Class := { plain "byte" none with kind := .primitive 'B', accessFlags := 0x411 }
/-- [B -/
def k20 : Class := { plain "[B" (some 0) with kind := .array 19 .byte, interfaces := #[15, 3], accessFlags := 1041 }

/-- the primitive int -/
def k21 : Class := { plain "int" none with kind := .primitive 'I', accessFlags := 0x411 }
/-- [I -/
def k22 : Class := { plain "[I" (some 0) with kind := .array 21 .int, interfaces := #[15, 3], accessFlags := 1041 }

def heap : Heap := #[{ cls := 8, slots := #[.long 0, .int 1, .null, .int 0, .null, .int 0, .int 0], vm := .statics 8 },
  { cls := 9, slots := #[.null, .ref 5, .null, .null, .null, .null], vm := .statics 9 },
  { cls := 13, slots := #[.ref 6, .null], vm := .statics 13 },
  { cls := 14, slots := #[.ref 5], vm := .statics 14 },
  { cls := 17, slots := #[.null, .null, .null], vm := .statics 17 },
  { cls := 14, slots := #[.null, .null, .null], vm := .none },
  { cls := 13, slots := #[.null, .null, .null], vm := .none }]
def classes : Array Class := #[k0, k1, k2, k3, k4, k5, k6, k7, k8, k9, k10, k11, k12, k13, k14, k15, k16, k17, k18, k19, k20, k21, k22]
def interned : List (Array UInt16 × Addr) := []
def slotsUsed : Nat := 25
def theMethod : MethodId := ⟨1, 3⟩
def args0 : Array Value := #[.int 5, .int 7, .int 5, .int 7, .int 3]
def aboutOver (below : List Frame) : State where
  vm := { classes := classes, interned := interned.toArray }
  heap := heap
  slotsUsed := slotsUsed
  threads := #[{ frames := .invoking theMethod args0 :: below }]
def below0 : List Frame := [.native { method := ⟨0, 0⟩, args := #[] }]
def about1 : State := aboutOver below0
def p0 : Program := .bare "" "" ""
def e0 : Env := launch0.env 0 0 0
theorem w_frames : about1.frames = Frame.invoking theMethod args0 :: below0 := rfl
set_option maxRecDepth 65536 in
theorem w_args : argsFit about1.vm theMethod args0 = true := by decide +kernel
set_option maxRecDepth 65536 in
theorem w_heap : heapFits about1 = true := by decide +kernel
set_option maxRecDepth 65536 in
theorem w_runnable : about1.curStatus? = some .runnable := by decide +kernel
set_option maxRecDepth 65536 in
theorem w_alone : about1.alone = true := by decide +kernel
set_option maxRecDepth 65536 in
theorem w_named : about1.methodNamed? x = some theMethod := by decide +kernel
set_option maxRecDepth 65536 in
theorem w_hears : about1.hears theMethod below0 = true := by decide +kernel
set_option maxRecDepth 65536 in
theorem w_ripe : about1.ripe theMethod args0 below0 = true := by decide +kernel
theorem w_running : about1.status = .running := rfl
set_option maxRecDepth 65536 in
theorem w_room : about1.hasRoom e0.platform room_1 = true :=
  launch0.hasRoom_least _ room_1 (by decide +kernel) (by decide +kernel) (by decide +kernel) (by decide +kernel) (by decide +kernel) (by decide +kernel)
theorem allAtoms_all (ts : List Jvm.Cond) (a : Array Jvm.Value) (st : Jvm.State) : (allAtoms ts).before a st = ts.all (fun c => c.before a st) := by
  induction ts with
  | nil => rfl
  | cons c t ih =>
    show (Jvm.Cond.and c (allAtoms t)).before a st = _
    rw [Jvm.Cond.before_and, ih, List.all_cons]
def words1 : List Jvm.Cond := Jvm.Cond.code x code maxLocals ret :: tables_1
/-- a 'code' word, met by the world's own term for the bytes: nothing is compared byte by byte -/
theorem code_word {y : MethodName} {bytes : ByteArray} {mx : Nat} {rt : Option FieldType} {a : Array Value} {s : State} {m : MethodId} {meth : Method} {c : Code} (h1 : s.methodNamed? y = some m) (h2 : s.vm.method? m = some meth) (h3 : meth.code = some c) (h4 : c.code = bytes)
    (h5 : (c.maxLocals == mx && c.exceptionTable.isEmpty && decide (c.maxStack ≤ mostOperands) && decide (meth.sig.returnType = rt) && !meth.locks && decide (parseMethodDescriptor y.desc = some meth.sig)) = true) : (Jvm.Cond.code y bytes mx rt).before a s = true := by
  simp only [Bool.and_eq_true, beq_iff_eq, Bool.not_eq_true', decide_eq_true_eq] at h5
  obtain ⟨⟨⟨⟨⟨g1, g2⟩, g3⟩, g4⟩, g5⟩, g6⟩ := h5
  simp [Cond.before, Cond.holds, Cond.value, h1, h2, h3, h4, g1, g2, g3, g4, g5, g6]
def isCode : Jvm.Cond → Bool
  | .code _ _ _ _ => true
  | _ => false
theorem all_split {L : List Jvm.Cond} {P : Jvm.Cond → Bool} (h1 : L.all (fun c => isCode c || P c) = true) (h2 : ∀ c ∈ L.filter isCode, P c = true) : L.all P = true := by
  refine List.all_eq_true.mpr fun c hc => ?_
  have h := List.all_eq_true.mp h1 c hc
  rcases Bool.eq_false_or_eq_true (isCode c) with hi | hi
  · exact h2 c (List.mem_filter.mpr ⟨hc, hi⟩)
  · simpa [hi] using h
set_option maxRecDepth 65536 in
theorem w_c0 : (Jvm.Cond.code x code maxLocals ret).before args0 about1 = true := code_word (m := ⟨1, 3⟩) (meth := k1m3) (c := k1c3) (by decide +kernel) rfl rfl rfl (by decide +kernel)
set_option maxRecDepth 65536 in
theorem w_c1 : (Jvm.Cond.code ({ cls := "tallykeep/engine/Keys", name := "isValid", desc := "([B)Z" } : Jvm.MethodName) prog_13_method_2_code (5 : Nat) (Option.some Jvm.ClassFile.FieldType.boolean)).before args0 about1 = true := code_word (m := ⟨2, 1⟩) (meth := k2m1) (c := k2c1) (by decide +kernel) rfl rfl rfl (by decide +kernel)
set_option maxRecDepth 65536 in
theorem w_c2 : (Jvm.Cond.code ({ cls := "tallykeep/engine/KeysIsValidPinLaw", name := "ok", desc := "(I)Z" } : Jvm.MethodName) method_2_code (2 : Nat) (Option.some Jvm.ClassFile.FieldType.boolean)).before args0 about1 = true := code_word (m := ⟨1, 1⟩) (meth := k1m1) (c := k1c1) (by decide +kernel) rfl rfl rfl (by decide +kernel)
set_option maxRecDepth 65536 in
theorem w_c3 : (Jvm.Cond.code ({ cls := "tallykeep/engine/KeysIsValidPinLaw", name := "digits", desc := "(Z)[B" } : Jvm.MethodName) method_3_code (1 : Nat) (Option.some (Jvm.ClassFile.FieldType.array Jvm.ClassFile.FieldType.byte))).before args0 about1 = true := code_word (m := ⟨1, 2⟩) (meth := k1m2) (c := k1c2) (by decide +kernel) rfl rfl rfl (by decide +kernel)
set_option maxRecDepth 65536 in
theorem w_c4 : (Jvm.Cond.code ({ cls := "tallykeep/engine/Keys", name := "unmapped", desc := "(Ljava/lang/String;)[B" } : Jvm.MethodName) prog_13_method_4_code (1 : Nat) (Option.some (Jvm.ClassFile.FieldType.array Jvm.ClassFile.FieldType.byte))).before args0 about1 = true := code_word (m := ⟨2, 2⟩) (meth := k2m2) (c := k2c2) (by decide +kernel) rfl rfl rfl (by decide +kernel)
set_option maxRecDepth 65536 in
theorem w_c5 : (Jvm.Cond.code ({ cls := "java/lang/String", name := "getBytes", desc := "(Ljava/nio/charset/Charset;)[B" } : Jvm.MethodName) jdk_42_method_64_code (2 : Nat) (Option.some (Jvm.ClassFile.FieldType.array Jvm.ClassFile.FieldType.byte))).before args0 about1 = true := code_word (m := ⟨8, 4⟩) (meth := k8m4) (c := k8c4) (by decide +kernel) rfl rfl rfl (by decide +kernel)
set_option maxRecDepth 65536 in
theorem w_c6 : (Jvm.Cond.code ({ cls := "java/lang/String", name := "coder", desc := "()B" } : Jvm.MethodName) jdk_42_method_152_code (1 : Nat) (Option.some Jvm.ClassFile.FieldType.byte)).before args0 about1 = true := code_word (m := ⟨8, 5⟩) (meth := k8m5) (c := k8c5) (by decide +kernel) rfl rfl rfl (by decide +kernel)
set_option maxRecDepth 65536 in
theorem w_c7 : (Jvm.Cond.code ({ cls := "java/lang/String", name := "encode", desc := "(Ljava/nio/charset/Charset;B[B)[B" } : Jvm.MethodName) jdk_42_method_18_code (3 : Nat) (Option.some (Jvm.ClassFile.FieldType.array Jvm.ClassFile.FieldType.byte))).before args0 about1 = true := code_word (m := ⟨8, 1⟩) (meth := k8m1) (c := k8c1) (by decide +kernel) rfl rfl rfl (by decide +kernel)
set_option maxRecDepth 65536 in
theorem w_c8 : (Jvm.Cond.code ({ cls := "java/lang/String", name := "encode8859_1", desc := "(B[B)[B" } : Jvm.MethodName) jdk_42_method_26_code (2 : Nat) (Option.some (Jvm.ClassFile.FieldType.array Jvm.ClassFile.FieldType.byte))).before args0 about1 = true := code_word (m := ⟨8, 2⟩) (meth := k8m2) (c := k8c2) (by decide +kernel) rfl rfl rfl (by decide +kernel)
set_option maxRecDepth 65536 in
theorem w_c9 : (Jvm.Cond.code ({ cls := "java/lang/String", name := "encode8859_1", desc := "(B[BZ)[B" } : Jvm.MethodName) jdk_42_method_27_code (10 : Nat) (Option.some (Jvm.ClassFile.FieldType.array Jvm.ClassFile.FieldType.byte))).before args0 about1 = true := code_word (m := ⟨8, 3⟩) (meth := k8m3) (c := k8c3) (by decide +kernel) rfl rfl rfl (by decide +kernel)
def codes1 : List Jvm.Cond := [Jvm.Cond.code x code maxLocals ret, Jvm.Cond.code ({ cls := "tallykeep/engine/Keys", name := "isValid", desc := "([B)Z" } : Jvm.MethodName) prog_13_method_2_code (5 : Nat) (Option.some Jvm.ClassFile.FieldType.boolean), Jvm.Cond.code ({ cls := "tallykeep/engine/KeysIsValidPinLaw", name := "ok", desc := "(I)Z" } : Jvm.MethodName) method_2_code (2 : Nat) (Option.some Jvm.ClassFile.FieldType.boolean), Jvm.Cond.code ({ cls := "tallykeep/engine/KeysIsValidPinLaw", name := "digits", desc := "(Z)[B" } : Jvm.MethodName) method_3_code (1 : Nat) (Option.some (Jvm.ClassFile.FieldType.array Jvm.ClassFile.FieldType.byte)), Jvm.Cond.code ({ cls := "tallykeep/engine/Keys", name := "unmapped", desc := "(Ljava/lang/String;)[B" } : Jvm.MethodName) prog_13_method_4_code (1 : Nat) (Option.some (Jvm.ClassFile.FieldType.array Jvm.ClassFile.FieldType.byte)), Jvm.Cond.code ({ cls := "java/lang/String", name := "getBytes", desc := "(Ljava/nio/charset/Charset;)[B" } : Jvm.MethodName) jdk_42_method_64_code (2 : Nat) (Option.some (Jvm.ClassFile.FieldType.array Jvm.ClassFile.FieldType.byte)), Jvm.Cond.code ({ cls := "java/lang/String", name := "coder", desc := "()B" } : Jvm.MethodName) jdk_42_method_152_code (1 : Nat) (Option.some Jvm.ClassFile.FieldType.byte), Jvm.Cond.code ({ cls := "java/lang/String", name := "encode", desc := "(Ljava/nio/charset/Charset;B[B)[B" } : Jvm.MethodName) jdk_42_method_18_code (3 : Nat) (Option.some (Jvm.ClassFile.FieldType.array Jvm.ClassFile.FieldType.byte)), Jvm.Cond.code ({ cls := "java/lang/String", name := "encode8859_1", desc := "(B[B)[B" } : Jvm.MethodName) jdk_42_method_26_code (2 : Nat) (Option.some (Jvm.ClassFile.FieldType.array Jvm.ClassFile.FieldType.byte)), Jvm.Cond.code ({ cls := "java/lang/String", name := "encode8859_1", desc := "(B[BZ)[B" } : Jvm.MethodName) jdk_42_method_27_code (10 : Nat) (Option.some (Jvm.ClassFile.FieldType.array Jvm.ClassFile.FieldType.byte))]
set_option maxRecDepth 65536 in
theorem codes_eq : words1.filter isCode = codes1 := rfl
theorem w_codes : ∀ c ∈ words1.filter isCode, c.before args0 about1 = true := by
  rw [codes_eq]
  intro c hc
  simp only [codes1, List.mem_cons, List.not_mem_nil, or_false] at hc
  rcases hc with rfl | rfl | rfl | rfl | rfl | rfl | rfl | rfl | rfl | rfl
  · exact w_c0
  · exact w_c1
  · exact w_c2
  · exact w_c3
  · exact w_c4
  · exact w_c5
  · exact w_c6
  · exact w_c7
  · exact w_c8
  · exact w_c9
set_option maxRecDepth 65536 in
theorem w_t1 : (words1.take 24).all (fun c => isCode c || c.before args0 about1) = true := by decide +kernel
set_option maxRecDepth 65536 in
theorem w_t2 : ((words1.drop 24).take 24).all (fun c => isCode c || c.before args0 about1) = true := by decide +kernel
set_option maxRecDepth 65536 in
theorem w_t3 : ((words1.drop 24).drop 24).all (fun c => isCode c || c.before args0 about1) = true := by decide +kernel
theorem w_tables : (allAtoms (Jvm.Cond.code x code maxLocals ret :: tables_1)).before args0 about1 = true := by
  rw [allAtoms_all]
  show words1.all (fun c => c.before args0 about1) = true
  refine all_split ?_ w_codes
  rw [← List.take_append_drop 24 words1, List.all_append, w_t1, ← List.take_append_drop 24 (words1.drop 24), List.all_append, w_t2, w_t3]
  rfl
set_option maxRecDepth 65536 in
theorem w_rest : rest_1_c.before args0 about1 = true := by decide +kernel
set_option maxRecDepth 65536 in
theorem w_case : (Jvm.Cond.and given_1 narrow_1).before args0 about1 = true := by decide +kernel
set_option maxRecDepth 65536 in
theorem w_consts : constsHeld consts_1 about1 := Jvm.Lit.constsHeldB_iff.mp (by decide +kernel)
theorem w_applies : (headSpec (Jvm.Cond.code x code maxLocals ret :: tables_1) room_1).applies x e0.platform about1 = true :=
  (Spec.applies_iff w_frames).mpr ⟨w_running, w_runnable, w_alone, w_named, w_hears, w_ripe, w_room, w_tables⟩
theorem atStart : AtStart classFile x code maxLocals ret World_1 tables_1 room_1 Calls_1 rest_1 Pre_1 launch0 p0 e0 about1 theMethod args0 below0 :=
  ⟨lists_1, trivial, launch0.admits_env _ _ _, launch0.least_env, fairChoices_fair.cas, fairChoices_fair.clock, w_frames, w_args, w_heap, w_applies, ⟨w_consts, trivial⟩, w_rest, w_case⟩
end start1
theorem witness_1 : WitnessClaimed_1 := ⟨start1.p0, start1.e0, start1.about1, start1.theMethod, start1.args0, start1.below0, start1.atStart⟩
end Jvm.Pilot.@@N@@
