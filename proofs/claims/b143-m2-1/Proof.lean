import JvmDerived
import JvmDerived.Pilot.@@N@@Statement
import JvmDerived.Pilot.@@N@@Code
set_option linter.unusedVariables false
set_option linter.unusedSimpArgs false

namespace Jvm.Pilot.@@N@@
open Jvm Jvm.ClassFile Sem Op Lib Jvm.Free Jvm.Stand Jvm.LawKit Jvm.RoadKit Bundle Jvm.Pilot.@@N@@.Jvm.D
/-- from S the run comes to an end of which P holds -/
abbrev Ends (tb : Tables) (e : Env) (below : List Frame) (S : State) (P : State → Outcome → Prop) : Prop := ∃ t o, Steps tb e below S t ∧ P t o
theorem own_via {tb : Tables} {e : Env} {below : List Frame} {S S' : State} {P : State → Outcome → Prop} (h : ∀ t, Steps tb e below S' t → Steps tb e below S t) (k : Ends tb e below S' P) : Ends tb e below S P := by
  obtain ⟨t, o, a, b⟩ := k
  exact ⟨t, o, h t a, b⟩
theorem own_begin {tb : Tables} {e : Env} {below : List Frame} {T : State} {g g' : JFrame} {P : State → Outcome → Prop} (q : g = g') (k : Ends tb e below (T.setTop g') P) : ∃ t o, Steps tb e below (T.setTop g) t ∧ P t o := by
  subst q
  exact k
/-- several roads come to one place -/
theorem own_join {tb : Tables} {e : Env} {below : List Frame} {S0 : State} {P : State → Outcome → Prop} {α : Type} (S : α → State) (H : α → Prop) (k1 : (∀ w, H w → Ends tb e below (S w) P) → Ends tb e below S0 P) (k2 : ∀ w, H w → Ends tb e below (S w) P) : Ends tb e below S0 P := k1 k2
theorem own_rwm {s t : State} {o : Outcome} {L : List Loc} {k n k' n' : Nat} (h : ReturnedEndW s o t L k n) (h1 : k ≤ k') (h2 : n ≤ n') : ReturnedEndW s o t L k' n' := ⟨h.1, h.2.1, h.2.2.1, h.2.2.2.mono h1 h2⟩
theorem own_narR {v : Value} {C : String} (h : v.isRef = true) : narrow (.object C) v = v := by cases v <;> first | rfl | (simp [Value.isRef] at h)
theorem own_fitR {v : Value} {C : String} (h : v.isRef = true) : fits (.object C) v = true := by cases v <;> first | rfl | (simp [Value.isRef] at h)
theorem own_catR {v : Value} (h : v.isRef = true) : v.category = 1 := by cases v <;> first | rfl | (simp [Value.isRef] at h)
theorem own_selPriv {s : State} {args : Array Value} {y z : MethodName} (hz : z.cls = y.cls) (hsel : (Jvm.Cond.selects z.cls z z).before args s = true) (hpriv : s.PrivateAt y) (hinst : (Jvm.Cond.instanceMethod y).before args s = true) (hy : y.cls ≠ "java/lang/invoke/MethodHandle" ∧ y.cls ≠ "java/lang/invoke/VarHandle") : (Jvm.Cond.selects y.cls y y).before args s = true := by
  obtain ⟨c2, r2, m2, -, -, q3, -, kP, hkP, hkPi⟩ := Cond.selects_spec hsel
  exact selects_self_of_private (hz ▸ findClass_of_methodNamed q3) hkP hkPi hpriv hinst hy
section OwnSteps
variable {tb : Tables} [Ours tb] {e : Env} {below : List Frame} {T : State} {m : MethodId} {c : Code} {P : State → Outcome → Prop} {pc pc' : Nat} {ls l' : Array Slot} {st : List Value}
theorem s_iload (h : At T m c below) (hx : tb.exec = Jvm.exec) {k : Nat} {v : Int32} (hd : decode c.code pc = .ok (.iload k, 2)) (hl : ls[k]? = some (.val (.int v))) (hp : pc + 2 = pc') (hr : Ends tb e below (T.setTop (mkF m pc' ls (.int v :: st))) P) : Ends tb e below (T.setTop (mkF m pc ls st)) P := by
  subst hp
  exact own_via (fun t_ k_ => XS.iload h hx rfl hd hl k_) hr
theorem s_istore (h : At T m c below) (hx : tb.exec = Jvm.exec) {k : Nat} {v : Int32} (hd : decode c.code pc = .ok (.istore k, 2)) (hl : storeLocals ls k (.int v) = some l') (hp : pc + 2 = pc') (hr : Ends tb e below (T.setTop (mkF m pc' l' st)) P) : Ends tb e below (T.setTop (mkF m pc ls (.int v :: st))) P := by
  subst hp
  exact own_via (fun t_ k_ => XS.istore h hx rfl hd rfl hl k_) hr
theorem s_iloadN (h : At T m c below) (hx : tb.exec = Jvm.exec) {k : Fin 4} {v : Int32} (hd : decode c.code pc = .ok (.iload_n k, 1)) (hl : ls[k.val]? = some (.val (.int v))) (hp : pc + 1 = pc') (hr : Ends tb e below (T.setTop (mkF m pc' ls (.int v :: st))) P) : Ends tb e below (T.setTop (mkF m pc ls st)) P := by
  subst hp
  exact own_via (fun t_ k_ => XS.iloadN h hx rfl hd hl k_) hr
theorem s_istoreN (h : At T m c below) (hx : tb.exec = Jvm.exec) {k : Fin 4} {v : Int32} (hd : decode c.code pc = .ok (.istore_n k, 1)) (hl : storeLocals ls k.val (.int v) = some l') (hp : pc + 1 = pc') (hr : Ends tb e below (T.setTop (mkF m pc' l' st)) P) : Ends tb e below (T.setTop (mkF m pc ls (.int v :: st))) P := by
  subst hp
  exact own_via (fun t_ k_ => XS.istoreN h hx rfl hd rfl hl k_) hr
theorem s_lload (h : At T m c below) (hx : tb.exec = Jvm.exec) {k : Nat} {v : Int64} (hd : decode c.code pc = .ok (.lload k, 2)) (hl : ls[k]? = some (.val (.long v))) (hp : pc + 2 = pc') (hr : Ends tb e below (T.setTop (mkF m pc' ls (.long v :: st))) P) : Ends tb e below (T.setTop (mkF m pc ls st)) P := by
  subst hp
  exact own_via (fun t_ k_ => XS.lload h hx rfl hd hl k_) hr
theorem s_lstore (h : At T m c below) (hx : tb.exec = Jvm.exec) {k : Nat} {v : Int64} (hd : decode c.code pc = .ok (.lstore k, 2)) (hl : storeLocals ls k (.long v) = some l') (hp : pc + 2 = pc') (hr : Ends tb e below (T.setTop (mkF m pc' l' st)) P) : Ends tb e below (T.setTop (mkF m pc ls (.long v :: st))) P := by
  subst hp
  exact own_via (fun t_ k_ => XS.lstore h hx rfl hd rfl hl k_) hr
theorem s_lloadN (h : At T m c below) (hx : tb.exec = Jvm.exec) {k : Fin 4} {v : Int64} (hd : decode c.code pc = .ok (.lload_n k, 1)) (hl : ls[k.val]? = some (.val (.long v))) (hp : pc + 1 = pc') (hr : Ends tb e below (T.setTop (mkF m pc' ls (.long v :: st))) P) : Ends tb e below (T.setTop (mkF m pc ls st)) P := by
  subst hp
  exact own_via (fun t_ k_ => XS.lloadN h hx rfl hd hl k_) hr
theorem s_lstoreN (h : At T m c below) (hx : tb.exec = Jvm.exec) {k : Fin 4} {v : Int64} (hd : decode c.code pc = .ok (.lstore_n k, 1)) (hl : storeLocals ls k.val (.long v) = some l') (hp : pc + 1 = pc') (hr : Ends tb e below (T.setTop (mkF m pc' l' st)) P) : Ends tb e below (T.setTop (mkF m pc ls (.long v :: st))) P := by
  subst hp
  exact own_via (fun t_ k_ => XS.lstoreN h hx rfl hd rfl hl k_) hr
theorem s_dload (h : At T m c below) (hx : tb.exec = Jvm.exec) {k : Nat} {v : UInt64} (hd : decode c.code pc = .ok (.dload k, 2)) (hl : ls[k]? = some (.val (.double v))) (hp : pc + 2 = pc') (hr : Ends tb e below (T.setTop (mkF m pc' ls (.double v :: st))) P) : Ends tb e below (T.setTop (mkF m pc ls st)) P := by
  subst hp
  exact own_via (fun t_ k_ => XS.dload h hx rfl hd hl k_) hr
theorem s_dstore (h : At T m c below) (hx : tb.exec = Jvm.exec) {k : Nat} {v : UInt64} (hd : decode c.code pc = .ok (.dstore k, 2)) (hl : storeLocals ls k (.double v) = some l') (hp : pc + 2 = pc') (hr : Ends tb e below (T.setTop (mkF m pc' l' st)) P) : Ends tb e below (T.setTop (mkF m pc ls (.double v :: st))) P := by
  subst hp
  exact own_via (fun t_ k_ => XS.dstore h hx rfl hd rfl hl k_) hr
theorem s_dloadN (h : At T m c below) (hx : tb.exec = Jvm.exec) {k : Fin 4} {v : UInt64} (hd : decode c.code pc = .ok (.dload_n k, 1)) (hl : ls[k.val]? = some (.val (.double v))) (hp : pc + 1 = pc') (hr : Ends tb e below (T.setTop (mkF m pc' ls (.double v :: st))) P) : Ends tb e below (T.setTop (mkF m pc ls st)) P := by
  subst hp
  exact own_via (fun t_ k_ => XS.dloadN h hx rfl hd hl k_) hr
theorem s_dstoreN (h : At T m c below) (hx : tb.exec = Jvm.exec) {k : Fin 4} {v : UInt64} (hd : decode c.code pc = .ok (.dstore_n k, 1)) (hl : storeLocals ls k.val (.double v) = some l') (hp : pc + 1 = pc') (hr : Ends tb e below (T.setTop (mkF m pc' l' st)) P) : Ends tb e below (T.setTop (mkF m pc ls (.double v :: st))) P := by
  subst hp
  exact own_via (fun t_ k_ => XS.dstoreN h hx rfl hd rfl hl k_) hr
theorem s_aload (h : At T m c below) (hx : tb.exec = Jvm.exec) {k : Nat} {v : Value} (hd : decode c.code pc = .ok (.aload k, 2)) (hl : ls[k]? = some (.val v)) (hv : v.isRef = true) (hp : pc + 2 = pc') (hr : Ends tb e below (T.setTop (mkF m pc' ls (v :: st))) P) : Ends tb e below (T.setTop (mkF m pc ls st)) P := by
  subst hp
  exact own_via (fun t_ k_ => XS.aload h hx rfl hd hl hv k_) hr
theorem s_astore (h : At T m c below) (hx : tb.exec = Jvm.exec) {k : Nat} {v : Value} (hd : decode c.code pc = .ok (.astore k, 2)) (hv : v.isRef = true) (hl : storeLocals ls k v = some l') (hp : pc + 2 = pc') (hr : Ends tb e below (T.setTop (mkF m pc' l' st)) P) : Ends tb e below (T.setTop (mkF m pc ls (v :: st))) P := by
  subst hp
  exact own_via (fun t_ k_ => XS.astore h hx rfl hd rfl hv hl k_) hr
theorem s_aloadN (h : At T m c below) (hx : tb.exec = Jvm.exec) {k : Fin 4} {v : Value} (hd : decode c.code pc = .ok (.aload_n k, 1)) (hl : ls[k.val]? = some (.val v)) (hv : v.isRef = true) (hp : pc + 1 = pc') (hr : Ends tb e below (T.setTop (mkF m pc' ls (v :: st))) P) : Ends tb e below (T.setTop (mkF m pc ls st)) P := by
  subst hp
  exact own_via (fun t_ k_ => XS.aloadN h hx rfl hd hl hv k_) hr
theorem s_astoreN (h : At T m c below) (hx : tb.exec = Jvm.exec) {k : Fin 4} {v : Value} (hd : decode c.code pc = .ok (.astore_n k, 1)) (hv : v.isRef = true) (hl : storeLocals ls k.val v = some l') (hp : pc + 1 = pc') (hr : Ends tb e below (T.setTop (mkF m pc' l' st)) P) : Ends tb e below (T.setTop (mkF m pc ls (v :: st))) P := by
  subst hp
  exact own_via (fun t_ k_ => XS.astoreN h hx rfl hd rfl hv hl k_) hr
theorem s_iconst (h : At T m c below) (hx : tb.exec = Jvm.exec) {i : Int} {v : Int32} (hd : decode c.code pc = .ok (.iconst i, 1)) (hv : Int32.ofInt i = v) (hp : pc + 1 = pc') (hr : Ends tb e below (T.setTop (mkF m pc' ls (.int v :: st))) P) : Ends tb e below (T.setTop (mkF m pc ls st)) P := by
  subst hp hv
  exact own_via (fun t_ k_ => XS.iconst h hx rfl hd k_) hr
theorem s_bipush (h : At T m c below) (hx : tb.exec = Jvm.exec) {i : Int} {v : Int32} (hd : decode c.code pc = .ok (.bipush i, 2)) (hv : (Int8.ofInt i).toInt32 = v) (hp : pc + 2 = pc') (hr : Ends tb e below (T.setTop (mkF m pc' ls (.int v :: st))) P) : Ends tb e below (T.setTop (mkF m pc ls st)) P := by
  subst hp hv
  exact own_via (fun t_ k_ => XS.bipush h hx rfl hd k_) hr
theorem s_sipush (h : At T m c below) (hx : tb.exec = Jvm.exec) {i : Int} {v : Int32} (hd : decode c.code pc = .ok (.sipush i, 3)) (hv : (Int16.ofInt i).toInt32 = v) (hp : pc + 3 = pc') (hr : Ends tb e below (T.setTop (mkF m pc' ls (.int v :: st))) P) : Ends tb e below (T.setTop (mkF m pc ls st)) P := by
  subst hp hv
  exact own_via (fun t_ k_ => XS.sipush h hx rfl hd k_) hr
theorem s_lconst (h : At T m c below) (hx : tb.exec = Jvm.exec) {i : Fin 2} {v : Int64} (hd : decode c.code pc = .ok (.lconst i, 1)) (hv : Int64.ofNat i = v) (hp : pc + 1 = pc') (hr : Ends tb e below (T.setTop (mkF m pc' ls (.long v :: st))) P) : Ends tb e below (T.setTop (mkF m pc ls st)) P := by
  subst hp hv
  exact own_via (fun t_ k_ => XS.lconst h hx rfl hd k_) hr
theorem s_aconstNull (h : At T m c below) (hx : tb.exec = Jvm.exec)  (hd : decode c.code pc = .ok (.aconst_null, 1))  (hp : pc + 1 = pc') (hr : Ends tb e below (T.setTop (mkF m pc' ls (.null :: st))) P) : Ends tb e below (T.setTop (mkF m pc ls st)) P := by
  subst hp
  exact own_via (fun t_ k_ => XS.aconstNull h hx rfl hd k_) hr
theorem s_iadd (h : At T m c below) (hx : tb.exec = Jvm.exec) {x y : Int32} (hd : decode c.code pc = .ok (.iadd, 1))  (hp : pc + 1 = pc') (hr : Ends tb e below (T.setTop (mkF m pc' ls (.int (x + y) :: st))) P) : Ends tb e below (T.setTop (mkF m pc ls (.int y :: .int x :: st))) P := by
  subst hp
  exact own_via (fun t_ k_ => XS.iadd h hx rfl hd rfl k_) hr
theorem s_isub (h : At T m c below) (hx : tb.exec = Jvm.exec) {x y : Int32} (hd : decode c.code pc = .ok (.isub, 1))  (hp : pc + 1 = pc') (hr : Ends tb e below (T.setTop (mkF m pc' ls (.int (x - y) :: st))) P) : Ends tb e below (T.setTop (mkF m pc ls (.int y :: .int x :: st))) P := by
  subst hp
  exact own_via (fun t_ k_ => XS.isub h hx rfl hd rfl k_) hr
theorem s_imul (h : At T m c below) (hx : tb.exec = Jvm.exec) {x y : Int32} (hd : decode c.code pc = .ok (.imul, 1))  (hp : pc + 1 = pc') (hr : Ends tb e below (T.setTop (mkF m pc' ls (.int (x * y) :: st))) P) : Ends tb e below (T.setTop (mkF m pc ls (.int y :: .int x :: st))) P := by
  subst hp
  exact own_via (fun t_ k_ => XS.imul h hx rfl hd rfl k_) hr
theorem s_iand (h : At T m c below) (hx : tb.exec = Jvm.exec) {x y : Int32} (hd : decode c.code pc = .ok (.iand, 1))  (hp : pc + 1 = pc') (hr : Ends tb e below (T.setTop (mkF m pc' ls (.int (x &&& y) :: st))) P) : Ends tb e below (T.setTop (mkF m pc ls (.int y :: .int x :: st))) P := by
  subst hp
  exact own_via (fun t_ k_ => XS.iand h hx rfl hd rfl k_) hr
theorem s_ior (h : At T m c below) (hx : tb.exec = Jvm.exec) {x y : Int32} (hd : decode c.code pc = .ok (.ior, 1))  (hp : pc + 1 = pc') (hr : Ends tb e below (T.setTop (mkF m pc' ls (.int (x ||| y) :: st))) P) : Ends tb e below (T.setTop (mkF m pc ls (.int y :: .int x :: st))) P := by
  subst hp
  exact own_via (fun t_ k_ => XS.ior h hx rfl hd rfl k_) hr
theorem s_ixor (h : At T m c below) (hx : tb.exec = Jvm.exec) {x y : Int32} (hd : decode c.code pc = .ok (.ixor, 1))  (hp : pc + 1 = pc') (hr : Ends tb e below (T.setTop (mkF m pc' ls (.int (x ^^^ y) :: st))) P) : Ends tb e below (T.setTop (mkF m pc ls (.int y :: .int x :: st))) P := by
  subst hp
  exact own_via (fun t_ k_ => XS.ixor h hx rfl hd rfl k_) hr
theorem s_ishl (h : At T m c below) (hx : tb.exec = Jvm.exec) {x y : Int32} (hd : decode c.code pc = .ok (.ishl, 1))  (hp : pc + 1 = pc') (hr : Ends tb e below (T.setTop (mkF m pc' ls (.int (x <<< (y &&& 31)) :: st))) P) : Ends tb e below (T.setTop (mkF m pc ls (.int y :: .int x :: st))) P := by
  subst hp
  exact own_via (fun t_ k_ => XS.ishl h hx rfl hd rfl k_) hr
theorem s_ishr (h : At T m c below) (hx : tb.exec = Jvm.exec) {x y : Int32} (hd : decode c.code pc = .ok (.ishr, 1))  (hp : pc + 1 = pc') (hr : Ends tb e below (T.setTop (mkF m pc' ls (.int (x >>> (y &&& 31)) :: st))) P) : Ends tb e below (T.setTop (mkF m pc ls (.int y :: .int x :: st))) P := by
  subst hp
  exact own_via (fun t_ k_ => XS.ishr h hx rfl hd rfl k_) hr
theorem s_iushr (h : At T m c below) (hx : tb.exec = Jvm.exec) {x y : Int32} (hd : decode c.code pc = .ok (.iushr, 1))  (hp : pc + 1 = pc') (hr : Ends tb e below (T.setTop (mkF m pc' ls (.int ((x.toUInt32 >>> (y &&& 31).toUInt32).toInt32) :: st))) P) : Ends tb e below (T.setTop (mkF m pc ls (.int y :: .int x :: st))) P := by
  subst hp
  exact own_via (fun t_ k_ => XS.iushr h hx rfl hd rfl k_) hr
theorem s_ladd (h : At T m c below) (hx : tb.exec = Jvm.exec) {x y : Int64} (hd : decode c.code pc = .ok (.ladd, 1))  (hp : pc + 1 = pc') (hr : Ends tb e below (T.setTop (mkF m pc' ls (.long (x + y) :: st))) P) : Ends tb e below (T.setTop (mkF m pc ls (.long y :: .long x :: st))) P := by
  subst hp
  exact own_via (fun t_ k_ => XS.ladd h hx rfl hd rfl k_) hr
theorem s_lsub (h : At T m c below) (hx : tb.exec = Jvm.exec) {x y : Int64} (hd : decode c.code pc = .ok (.lsub, 1))  (hp : pc + 1 = pc') (hr : Ends tb e below (T.setTop (mkF m pc' ls (.long (x - y) :: st))) P) : Ends tb e below (T.setTop (mkF m pc ls (.long y :: .long x :: st))) P := by
  subst hp
  exact own_via (fun t_ k_ => XS.lsub h hx rfl hd rfl k_) hr
theorem s_lmul (h : At T m c below) (hx : tb.exec = Jvm.exec) {x y : Int64} (hd : decode c.code pc = .ok (.lmul, 1))  (hp : pc + 1 = pc') (hr : Ends tb e below (T.setTop (mkF m pc' ls (.long (x * y) :: st))) P) : Ends tb e below (T.setTop (mkF m pc ls (.long y :: .long x :: st))) P := by
  subst hp
  exact own_via (fun t_ k_ => XS.lmul h hx rfl hd rfl k_) hr
theorem s_land (h : At T m c below) (hx : tb.exec = Jvm.exec) {x y : Int64} (hd : decode c.code pc = .ok (.land, 1))  (hp : pc + 1 = pc') (hr : Ends tb e below (T.setTop (mkF m pc' ls (.long (x &&& y) :: st))) P) : Ends tb e below (T.setTop (mkF m pc ls (.long y :: .long x :: st))) P := by
  subst hp
  exact own_via (fun t_ k_ => XS.land h hx rfl hd rfl k_) hr
theorem s_lor (h : At T m c below) (hx : tb.exec = Jvm.exec) {x y : Int64} (hd : decode c.code pc = .ok (.lor, 1))  (hp : pc + 1 = pc') (hr : Ends tb e below (T.setTop (mkF m pc' ls (.long (x ||| y) :: st))) P) : Ends tb e below (T.setTop (mkF m pc ls (.long y :: .long x :: st))) P := by
  subst hp
  exact own_via (fun t_ k_ => XS.lor h hx rfl hd rfl k_) hr
theorem s_lxor (h : At T m c below) (hx : tb.exec = Jvm.exec) {x y : Int64} (hd : decode c.code pc = .ok (.lxor, 1))  (hp : pc + 1 = pc') (hr : Ends tb e below (T.setTop (mkF m pc' ls (.long (x ^^^ y) :: st))) P) : Ends tb e below (T.setTop (mkF m pc ls (.long y :: .long x :: st))) P := by
  subst hp
  exact own_via (fun t_ k_ => XS.lxor h hx rfl hd rfl k_) hr
theorem s_lshl (h : At T m c below) (hx : tb.exec = Jvm.exec) {x : Int64} {y : Int32} (hd : decode c.code pc = .ok (.lshl, 1))  (hp : pc + 1 = pc') (hr : Ends tb e below (T.setTop (mkF m pc' ls (.long (x <<< (y &&& 0x3f).toInt64) :: st))) P) : Ends tb e below (T.setTop (mkF m pc ls (.int y :: .long x :: st))) P := by
  subst hp
  exact own_via (fun t_ k_ => XS.lshl h hx rfl hd rfl k_) hr
theorem s_lshr (h : At T m c below) (hx : tb.exec = Jvm.exec) {x : Int64} {y : Int32} (hd : decode c.code pc = .ok (.lshr, 1))  (hp : pc + 1 = pc') (hr : Ends tb e below (T.setTop (mkF m pc' ls (.long (x >>> (y &&& 0x3f).toInt64) :: st))) P) : Ends tb e below (T.setTop (mkF m pc ls (.int y :: .long x :: st))) P := by
  subst hp
  exact own_via (fun t_ k_ => XS.lshr h hx rfl hd rfl k_) hr
theorem s_lushr (h : At T m c below) (hx : tb.exec = Jvm.exec) {x : Int64} {y : Int32} (hd : decode c.code pc = .ok (.lushr, 1))  (hp : pc + 1 = pc') (hr : Ends tb e below (T.setTop (mkF m pc' ls (.long ((x.toUInt64 >>> (y &&& 0x3f).toInt64.toUInt64).toInt64) :: st))) P) : Ends tb e below (T.setTop (mkF m pc ls (.int y :: .long x :: st))) P := by
  subst hp
  exact own_via (fun t_ k_ => XS.lushr h hx rfl hd rfl k_) hr
theorem s_idiv (h : At T m c below) (hx : tb.exec = Jvm.exec) {x y : Int32} (hd : decode c.code pc = .ok (.idiv, 1)) (hy : y ≠ 0) (hp : pc + 1 = pc') (hr : Ends tb e below (T.setTop (mkF m pc' ls (.int (x / y) :: st))) P) : Ends tb e below (T.setTop (mkF m pc ls (.int y :: .int x :: st))) P := by
  subst hp
  exact own_via (fun t_ k_ => XS.idiv h hx rfl hd rfl hy k_) hr
theorem s_ldiv (h : At T m c below) (hx : tb.exec = Jvm.exec) {x y : Int64} (hd : decode c.code pc = .ok (.ldiv, 1)) (hy : y ≠ 0) (hp : pc + 1 = pc') (hr : Ends tb e below (T.setTop (mkF m pc' ls (.long (x / y) :: st))) P) : Ends tb e below (T.setTop (mkF m pc ls (.long y :: .long x :: st))) P := by
  subst hp
  exact own_via (fun t_ k_ => XS.ldiv h hx rfl hd rfl hy k_) hr
theorem s_lrem (h : At T m c below) (hx : tb.exec = Jvm.exec) {x y : Int64} (hd : decode c.code pc = .ok (.lrem, 1)) (hy : y ≠ 0) (hp : pc + 1 = pc') (hr : Ends tb e below (T.setTop (mkF m pc' ls (.long (x % y) :: st))) P) : Ends tb e below (T.setTop (mkF m pc ls (.long y :: .long x :: st))) P := by
  subst hp
  exact own_via (fun t_ k_ => XS.lrem h hx rfl hd rfl hy (by rw [lrem_mod]; exact k_)) hr
theorem s_ineg (h : At T m c below) (hx : tb.exec = Jvm.exec) {x : Int32} (hd : decode c.code pc = .ok (.ineg, 1))  (hp : pc + 1 = pc') (hr : Ends tb e below (T.setTop (mkF m pc' ls (.int (-x) :: st))) P) : Ends tb e below (T.setTop (mkF m pc ls (.int x :: st))) P := by
  subst hp
  exact own_via (fun t_ k_ => XS.ineg h hx rfl hd rfl k_) hr
theorem s_lneg (h : At T m c below) (hx : tb.exec = Jvm.exec) {x : Int64} (hd : decode c.code pc = .ok (.lneg, 1))  (hp : pc + 1 = pc') (hr : Ends tb e below (T.setTop (mkF m pc' ls (.long (-x) :: st))) P) : Ends tb e below (T.setTop (mkF m pc ls (.long x :: st))) P := by
  subst hp
  exact own_via (fun t_ k_ => XS.lneg h hx rfl hd rfl k_) hr
theorem s_i2l (h : At T m c below) (hx : tb.exec = Jvm.exec) {x : Int32} (hd : decode c.code pc = .ok (.i2l, 1))  (hp : pc + 1 = pc') (hr : Ends tb e below (T.setTop (mkF m pc' ls (.long (x.toInt64) :: st))) P) : Ends tb e below (T.setTop (mkF m pc ls (.int x :: st))) P := by
  subst hp
  exact own_via (fun t_ k_ => XS.i2l h hx rfl hd rfl k_) hr
theorem s_l2i (h : At T m c below) (hx : tb.exec = Jvm.exec) {x : Int64} (hd : decode c.code pc = .ok (.l2i, 1))  (hp : pc + 1 = pc') (hr : Ends tb e below (T.setTop (mkF m pc' ls (.int (x.toInt32) :: st))) P) : Ends tb e below (T.setTop (mkF m pc ls (.long x :: st))) P := by
  subst hp
  exact own_via (fun t_ k_ => XS.l2i h hx rfl hd rfl k_) hr
theorem s_i2b (h : At T m c below) (hx : tb.exec = Jvm.exec) {x : Int32} (hd : decode c.code pc = .ok (.i2b, 1))  (hp : pc + 1 = pc') (hr : Ends tb e below (T.setTop (mkF m pc' ls (.int (x.toInt8.toInt32) :: st))) P) : Ends tb e below (T.setTop (mkF m pc ls (.int x :: st))) P := by
  subst hp
  exact own_via (fun t_ k_ => XS.i2b h hx rfl hd rfl k_) hr
theorem s_i2s (h : At T m c below) (hx : tb.exec = Jvm.exec) {x : Int32} (hd : decode c.code pc = .ok (.i2s, 1))  (hp : pc + 1 = pc') (hr : Ends tb e below (T.setTop (mkF m pc' ls (.int (x.toInt16.toInt32) :: st))) P) : Ends tb e below (T.setTop (mkF m pc ls (.int x :: st))) P := by
  subst hp
  exact own_via (fun t_ k_ => XS.i2s h hx rfl hd rfl k_) hr
theorem s_i2c (h : At T m c below) (hx : tb.exec = Jvm.exec) {x : Int32} (hd : decode c.code pc = .ok (.i2c, 1))  (hp : pc + 1 = pc') (hr : Ends tb e below (T.setTop (mkF m pc' ls (.int (x.toUInt32.toUInt16.toUInt32.toInt32) :: st))) P) : Ends tb e below (T.setTop (mkF m pc ls (.int x :: st))) P := by
  subst hp
  exact own_via (fun t_ k_ => XS.i2c h hx rfl hd rfl k_) hr
theorem s_lcmp (h : At T m c below) (hx : tb.exec = Jvm.exec) {x y : Int64} (hd : decode c.code pc = .ok (.lcmp, 1))  (hp : pc + 1 = pc') (hr : Ends tb e below (T.setTop (mkF m pc' ls (.int (lcmpW x y) :: st))) P) : Ends tb e below (T.setTop (mkF m pc ls (.long y :: .long x :: st))) P := by
  subst hp
  exact own_via (fun t_ k_ => XS.lcmp h hx rfl hd rfl k_) hr
theorem s_l2d (h : At T m c below) (hx : tb.exec = Jvm.exec) {x : Int64} (hd : decode c.code pc = .ok (.l2d, 1))  (hp : pc + 1 = pc') (hr : Ends tb e below (T.setTop (mkF m pc' ls (.double (FP.l2d x) :: st))) P) : Ends tb e below (T.setTop (mkF m pc ls (.long x :: st))) P := by
  subst hp
  exact own_via (fun t_ k_ => XS.l2dS h hx rfl hd rfl rfl k_) hr
theorem s_dneg (h : At T m c below) (hx : tb.exec = Jvm.exec) {x : UInt64} (hd : decode c.code pc = .ok (.dneg, 1))  (hp : pc + 1 = pc') (hr : Ends tb e below (T.setTop (mkF m pc' ls (.double (FP.dneg x) :: st))) P) : Ends tb e below (T.setTop (mkF m pc ls (.double x :: st))) P := by
  subst hp
  exact own_via (fun t_ k_ => XS.dnegS h hx rfl hd rfl rfl k_) hr
theorem s_dcmp (h : At T m c below) (hx : tb.exec = Jvm.exec) {o : CmpOp} {x y : UInt64} (hd : decode c.code pc = .ok (.dcmp o, 1))  (hp : pc + 1 = pc') (hr : Ends tb e below (T.setTop (mkF m pc' ls (.int (cmpValue (FP.dcmp x y) o) :: st))) P) : Ends tb e below (T.setTop (mkF m pc ls (.double y :: .double x :: st))) P := by
  subst hp
  exact own_via (fun t_ k_ => XS.dcmpS h hx rfl hd rfl rfl k_) hr
theorem s_iinc (h : At T m c below) (hx : tb.exec = Jvm.exec) {k : Nat} {i : Int} {x v : Int32} (hd : decode c.code pc = .ok (.iinc k i, 3)) (hv : Int32.ofInt i = v) (hl : ls[k]? = some (.val (.int x))) (hl' : storeLocals ls k (.int (x + v)) = some l') (hp : pc + 3 = pc') (hr : Ends tb e below (T.setTop (mkF m pc' l' st)) P) : Ends tb e below (T.setTop (mkF m pc ls st)) P := by
  subst hp hv
  exact own_via (fun t_ k_ => XS.iinc h hx rfl hd hl hl' k_) hr
theorem s_dup (h : At T m c below) (hx : tb.exec = Jvm.exec) {x : Value} (hd : decode c.code pc = .ok (.dup, 1)) (hc : x.category = 1) (hp : pc + 1 = pc') (hr : Ends tb e below (T.setTop (mkF m pc' ls (x :: x :: st))) P) : Ends tb e below (T.setTop (mkF m pc ls (x :: st))) P := by
  subst hp
  exact own_via (fun t_ k_ => XS.dup h hx rfl hd rfl hc k_) hr
theorem s_dupX1 (h : At T m c below) (hx : tb.exec = Jvm.exec) {x y : Value} (hd : decode c.code pc = .ok (.dup_x1, 1)) (hc : x.category = 1) (hc' : y.category = 1) (hp : pc + 1 = pc') (hr : Ends tb e below (T.setTop (mkF m pc' ls (x :: y :: x :: st))) P) : Ends tb e below (T.setTop (mkF m pc ls (x :: y :: st))) P := by
  subst hp
  exact own_via (fun t_ k_ => XS.dupX1 h hx rfl hd rfl hc hc' k_) hr
theorem s_dup2 (h : At T m c below) (hx : tb.exec = Jvm.exec) {x y : Value} (hd : decode c.code pc = .ok (.dup2, 1)) (hc : x.category = 1) (hc' : y.category = 1) (hp : pc + 1 = pc') (hr : Ends tb e below (T.setTop (mkF m pc' ls (x :: y :: x :: y :: st))) P) : Ends tb e below (T.setTop (mkF m pc ls (x :: y :: st))) P := by
  subst hp
  exact own_via (fun t_ k_ => XT.dup2 h hx rfl hd rfl hc hc' k_) hr
theorem s_dup2L (h : At T m c below) (hx : tb.exec = Jvm.exec) {x : Int64} (hd : decode c.code pc = .ok (.dup2, 1))  (hp : pc + 1 = pc') (hr : Ends tb e below (T.setTop (mkF m pc' ls (.long x :: .long x :: st))) P) : Ends tb e below (T.setTop (mkF m pc ls (.long x :: st))) P := by
  subst hp
  exact own_via (fun t_ k_ => XT.dup2L h hx rfl hd rfl k_) hr
theorem s_pop (h : At T m c below) (hx : tb.exec = Jvm.exec) {x : Value} (hd : decode c.code pc = .ok (.pop, 1)) (hc : x.category = 1) (hp : pc + 1 = pc') (hr : Ends tb e below (T.setTop (mkF m pc' ls st)) P) : Ends tb e below (T.setTop (mkF m pc ls (x :: st))) P := by
  subst hp
  exact own_via (fun t_ k_ => XS.pop h hx rfl hd rfl hc k_) hr
theorem own_pop2L {target : State} {g : JFrame} (h : At T m c below) (hx : tb.exec = Jvm.exec) (hg : g.method = m) {x : Int64} {rest : List Value} (hd : decode c.code g.pc = .ok (.pop2, 1)) (hs : g.stack = .long x :: rest)
    (hr : Steps tb e below (T.setTop { g with pc := g.pc + 1, stack := rest }) target) : Steps tb e below (T.setTop g) target := by
  subst hg
  jvm_step h [h.top, hx, hd, hs, Value.category]
  exact hr
theorem s_pop2L (h : At T m c below) (hx : tb.exec = Jvm.exec) {x : Int64} (hd : decode c.code pc = .ok (.pop2, 1))  (hp : pc + 1 = pc') (hr : Ends tb e below (T.setTop (mkF m pc' ls st)) P) : Ends tb e below (T.setTop (mkF m pc ls (.long x :: st))) P := by
  subst hp
  exact own_via (fun t_ k_ => own_pop2L h hx rfl hd rfl k_) hr
theorem s_goto (h : At T m c below) (hx : tb.exec = Jvm.exec)  {o : Int} (hd : decode c.code pc = .ok (.goto o, 3))  (ho : 0 ≤ (pc : Int) + o) (hp : ((pc : Int) + o).toNat = pc') (hr : Ends tb e below (T.setTop (mkF m pc' ls st)) P) : Ends tb e below (T.setTop (mkF m pc ls st)) P := own_via (fun t_ k_ => XS.goto h hx rfl rfl hd ho hp k_) hr
theorem s_ifYes (h : At T m c below) (hx : tb.exec = Jvm.exec) {cd : ClassFile.Cond} {x : Int32} {o : Int} (hd : decode c.code pc = .ok (.ifCond cd o, 3)) (hc : ifCond.holds cd x = true) (ho : 0 ≤ (pc : Int) + o) (hp : ((pc : Int) + o).toNat = pc') (hr : Ends tb e below (T.setTop (mkF m pc' ls st)) P) : Ends tb e below (T.setTop (mkF m pc ls (.int x :: st))) P := own_via (fun t_ k_ => XS.ifYes h hx rfl rfl hd rfl hc ho hp k_) hr
theorem s_ifNo (h : At T m c below) (hx : tb.exec = Jvm.exec) {cd : ClassFile.Cond} {x : Int32} {o : Int} (hd : decode c.code pc = .ok (.ifCond cd o, 3)) (hc : ifCond.holds cd x = false) (hp : pc + 3 = pc') (hr : Ends tb e below (T.setTop (mkF m pc' ls st)) P) : Ends tb e below (T.setTop (mkF m pc ls (.int x :: st))) P := by
  subst hp
  exact own_via (fun t_ k_ => XS.ifNo h hx rfl hd rfl hc k_) hr
theorem s_icmpYes (h : At T m c below) (hx : tb.exec = Jvm.exec) {cd : ClassFile.Cond} {x y : Int32} {o : Int} (hd : decode c.code pc = .ok (.if_icmp cd o, 3)) (hc : if_icmp.holds cd x y = true) (ho : 0 ≤ (pc : Int) + o) (hp : ((pc : Int) + o).toNat = pc') (hr : Ends tb e below (T.setTop (mkF m pc' ls st)) P) : Ends tb e below (T.setTop (mkF m pc ls (.int y :: .int x :: st))) P := own_via (fun t_ k_ => XS.icmpYes h hx rfl rfl hd rfl hc ho hp k_) hr
theorem s_icmpNo (h : At T m c below) (hx : tb.exec = Jvm.exec) {cd : ClassFile.Cond} {x y : Int32} {o : Int} (hd : decode c.code pc = .ok (.if_icmp cd o, 3)) (hc : if_icmp.holds cd x y = false) (hp : pc + 3 = pc') (hr : Ends tb e below (T.setTop (mkF m pc' ls st)) P) : Ends tb e below (T.setTop (mkF m pc ls (.int y :: .int x :: st))) P := by
  subst hp
  exact own_via (fun t_ k_ => XS.icmpNo h hx rfl hd rfl hc k_) hr
theorem s_ifnullYes (h : At T m c below) (hx : tb.exec = Jvm.exec)  {o : Int} (hd : decode c.code pc = .ok (.ifnull o, 3))  (ho : 0 ≤ (pc : Int) + o) (hp : ((pc : Int) + o).toNat = pc') (hr : Ends tb e below (T.setTop (mkF m pc' ls st)) P) : Ends tb e below (T.setTop (mkF m pc ls (.null :: st))) P := own_via (fun t_ k_ => XS.ifnullYes h hx rfl rfl hd rfl ho hp k_) hr
theorem s_ifnullNo (h : At T m c below) (hx : tb.exec = Jvm.exec) {b : Addr} {o : Int} (hd : decode c.code pc = .ok (.ifnull o, 3))  (hp : pc + 3 = pc') (hr : Ends tb e below (T.setTop (mkF m pc' ls st)) P) : Ends tb e below (T.setTop (mkF m pc ls (.ref b :: st))) P := by
  subst hp
  exact own_via (fun t_ k_ => XS.ifnullNo h hx rfl hd rfl k_) hr
theorem s_ifnonnullYes (h : At T m c below) (hx : tb.exec = Jvm.exec) {b : Addr} {o : Int} (hd : decode c.code pc = .ok (.ifnonnull o, 3))  (ho : 0 ≤ (pc : Int) + o) (hp : ((pc : Int) + o).toNat = pc') (hr : Ends tb e below (T.setTop (mkF m pc' ls st)) P) : Ends tb e below (T.setTop (mkF m pc ls (.ref b :: st))) P := own_via (fun t_ k_ => XS.ifnonnullYes h hx rfl rfl hd rfl ho hp k_) hr
theorem s_ifnonnullNo (h : At T m c below) (hx : tb.exec = Jvm.exec)  {o : Int} (hd : decode c.code pc = .ok (.ifnonnull o, 3))  (hp : pc + 3 = pc') (hr : Ends tb e below (T.setTop (mkF m pc' ls st)) P) : Ends tb e below (T.setTop (mkF m pc ls (.null :: st))) P := by
  subst hp
  exact own_via (fun t_ k_ => XS.ifnonnullNo h hx rfl hd rfl k_) hr
end OwnSteps
section OwnLaws
variable {p : Program} {l : Launch} {e : Env} {R : Room} {s : State} {m : MethodId} {args : Array Value} {below : List Frame} {meth : Method} {c : Code} {T : State} {locs : List Loc} {cells slots : Nat} {Z : State} {a0 : Array Value} {h : Heap} {P : State → Outcome → Prop} {pc pc' : Nat} {ls : Array Slot} {st : List Value}
theorem s_getF (X : Stand p l e R s m args below meth c T locs cells slots) (hx : p.tables.exec = Jvm.exec) (hZ : Z.Warmed39 s.vm) {own R0 O n d host : String} {index : Nat} (hown : s.vm.findClass own = some m.cls) (w : (Jvm.Cond.fieldLink own index R0 n d).before a0 Z = true ∨ (Jvm.Cond.fieldLinkNest own index R0 n d host).before a0 Z = true) (via : Via Z R0 O n d) (eT : T.heap = h) {a : Addr} {v : Value} (F : Fld Z h a O n d v) (hd : decode c.code pc = .ok (.getfield index, 3)) (hp : pc + 3 = pc') (k : ∀ T', Stand p l e R s m args below meth c T' locs cells slots → T'.heap = h → Ends p.tables e below (T'.setTop (mkF m pc' ls (v :: st))) P) : Ends p.tables e below (T.setTop (mkF m pc ls (.ref a :: st))) P := by
  subst hp
  obtain ⟨T', X', e', s'⟩ := getF X hx hZ hown w via eT F (g := mkF m pc ls (.ref a :: st)) rfl rfl hd
  exact own_via s' (k T' X' e')
theorem s_getS (X : Stand p l e R s m args below meth c T locs cells slots) (hx : p.tables.exec = Jvm.exec) (hZ : Z.Warmed39 s.vm) {own R0 O n d host : String} {index : Nat} (hown : s.vm.findClass own = some m.cls) (w : (Jvm.Cond.fieldLink own index R0 n d).before a0 Z = true ∨ (Jvm.Cond.fieldLinkNest own index R0 n d host).before a0 Z = true) (via : Via Z R0 O n d) (eT : T.heap = h) {v : Value} (F : Sta Z h O n d v) (hd : decode c.code pc = .ok (.getstatic index, 3)) (hp : pc + 3 = pc') (k : ∀ T', Stand p l e R s m args below meth c T' locs cells slots → T'.heap = h → Ends p.tables e below (T'.setTop (mkF m pc' ls (v :: st))) P) : Ends p.tables e below (T.setTop (mkF m pc ls st)) P := by
  subst hp
  obtain ⟨T', X', e', s'⟩ := getS2 X hx hZ hown w via eT F (g := mkF m pc ls st) rfl hd
  exact own_via s' (k T' X' e')
theorem s_putF (X : Stand p l e R s m args below meth c T locs cells slots) (hx : p.tables.exec = Jvm.exec) (hZ : Z.Warmed39 s.vm) {own R0 O n d host : String} {index : Nat} (hown : s.vm.findClass own = some m.cls) (w : (Jvm.Cond.fieldLink own index R0 n d).before a0 Z = true ∨ (Jvm.Cond.fieldLinkNest own index R0 n d host).before a0 Z = true) (via : Via Z R0 O n d) (eT : T.heap = h) {C : String} {kk : Nat} {ty : FieldType} {a : Addr} {v old : Value} (F : Fld Z h a O n d old) (E : Exa Z h a C) (L : (Jvm.Cond.lays C O n d).before a0 Z = true ∨ ((Jvm.Cond.laysFinal C O n d).before a0 Z = true ∧ own = O ∧ meth.name = "<init>")) (wi : (Jvm.Cond.instantiable C kk).before a0 Z = true) (hty : parseFieldDescriptor d = some ty) (hn : narrow ty v = v) (hf : fits ty v = true) (hd : decode c.code pc = .ok (.putfield index, 3)) (hp : pc + 3 = pc') (k : ∀ T' h', Stand p l e R s m args below meth c T' (locs ++ [⟨a, Jvm.RoadKit.slotOf Z O n d⟩]) cells slots → T'.heap = h' → Wr h h' a (Jvm.RoadKit.slotOf Z O n d) v → Ends p.tables e below (T'.setTop (mkF m pc' ls st)) P) : Ends p.tables e below (T.setTop (mkF m pc ls (v :: .ref a :: st))) P := by
  subst hp
  obtain ⟨T', h', X', e', W, s'⟩ := putF X hx hZ hown w via eT F E L wi hty hn hf (g := mkF m pc ls (v :: .ref a :: st)) rfl rfl hd
  exact own_via s' (k T' h' X' e' W)
theorem s_putFN (X : Stand p l e R s m args below meth c T locs cells slots) (hx : p.tables.exec = Jvm.exec) (hZ : Z.Warmed39 s.vm) {own R0 O n d : String} {index : Nat} (hown : s.vm.findClass own = some m.cls) (w : (Jvm.Cond.fieldLink own index R0 n d).before a0 Z = true) (via : Via Z R0 O n d) (eT : T.heap = h) {C : String} {kk : Nat} {ty : FieldType} {a : Addr} {v v' old : Value} (F : Fld Z h a O n d old) (E : Exa Z h a C) (L : (Jvm.Cond.lays C O n d).before a0 Z = true ∨ ((Jvm.Cond.laysFinal C O n d).before a0 Z = true ∧ own = O ∧ meth.name = "<init>")) (wi : (Jvm.Cond.instantiable C kk).before a0 Z = true) (hty : parseFieldDescriptor d = some ty) (hn : narrow ty v = v') (hf : fits ty v' = true) (hd : decode c.code pc = .ok (.putfield index, 3)) (hp : pc + 3 = pc') (k : ∀ T' h', Stand p l e R s m args below meth c T' (locs ++ [⟨a, Jvm.RoadKit.slotOf Z O n d⟩]) cells slots → T'.heap = h' → Wr h h' a (Jvm.RoadKit.slotOf Z O n d) v' → Ends p.tables e below (T'.setTop (mkF m pc' ls st)) P) : Ends p.tables e below (T.setTop (mkF m pc ls (v :: .ref a :: st))) P := by
  subst hp
  obtain ⟨T', h', X', e', W, s'⟩ := putFN X hx hZ hown w via eT F E L wi hty hn hf (g := mkF m pc ls (v :: .ref a :: st)) rfl rfl hd
  exact own_via s' (k T' h' X' e' W)
theorem s_newO (X : Stand p l e R s m args below meth c T locs cells slots) (hx : p.tables.exec = Jvm.exec) (hZ : Z.Warmed39 s.vm) {own C : String} {index n : Nat} (hown : s.vm.findClass own = some m.cls) (w : (Jvm.Cond.classLink own index C).before a0 Z = true) (wi : (Jvm.Cond.instantiable C n).before a0 Z = true) (wz : (Jvm.Cond.initialized C).before a0 Z = true) (eT : T.heap = h) (hd : decode c.code pc = .ok (.new index, 3)) (hc : cells + 1 ≤ R.cells) (hl : slots + n ≤ R.slots) (hp : pc + 3 = pc') (k : ∀ T' h', Stand p l e R s m args below meth c T' locs (cells + 1) (slots + n) → T'.heap = h' → Ext h h' → ∀ b, b = h.size → Exa Z h' b C → (∀ {O nm d : String} {ty : FieldType}, Laid Z a0 C O nm d → parseFieldDescriptor d = some ty → Fld Z h' b O nm d (defaultValue ty)) → Ends p.tables e below (T'.setTop (mkF m pc' ls (.ref b :: st))) P) : Ends p.tables e below (T.setTop (mkF m pc ls st)) P := by
  subst hp
  obtain ⟨T', h', X', e', E, A, D, -, s'⟩ := newO X hx hZ hown w wi wz eT (g := mkF m pc ls st) rfl hd hc hl
  exact own_via s' (k T' h' X' e' E _ rfl A D)
theorem s_newP (X : Stand p l e R s m args below meth c T locs cells slots) (hx : p.tables.exec = Jvm.exec) (hZ : Z.Warmed39 s.vm) {aty : ArrayType} (w : (Jvm.Cond.arrayClass (newarray.typeOf aty)).before a0 Z = true) (eT : T.heap = h) (hd : decode c.code pc = .ok (.newarray aty, 2)) {n : Int32} (hn : ¬ n < 0) {cap : Nat} (hcap : n.toNatClampNeg ≤ cap) (hb : cap * 8 ≤ 536870912) (hc : cells + 1 ≤ R.cells) (hl : slots + cap ≤ R.slots) (hp : pc + 2 = pc') (k : ∀ T' h', Stand p l e R s m args below meth c T' locs (cells + 1) (slots + cap) → T'.heap = h' → ∀ cA, Ext h h' → ∀ b, b = h.size → Arr Z h' b (newA cA (newarray.typeOf aty) n) (newarray.typeOf aty) → Ends p.tables e below (T'.setTop (mkF m pc' ls (.ref b :: st))) P) : Ends p.tables e below (T.setTop (mkF m pc ls (.int n :: st))) P := by
  subst hp
  obtain ⟨T', h', cA, X', e', E, A, s'⟩ := newP X hx hZ w eT (g := mkF m pc ls (.int n :: st)) rfl hd rfl hn hcap hb hc hl
  exact own_via s' (k T' h' X' e' cA E _ rfl A)
theorem s_newPE (X : Stand p l e R s m args below meth c T locs cells slots) (hx : p.tables.exec = Jvm.exec) (hZ : Z.Warmed39 s.vm) {aty : ArrayType} (w : (Jvm.Cond.arrayClass (newarray.typeOf aty)).before a0 Z = true) (eT : T.heap = h) (hd : decode c.code pc = .ok (.newarray aty, 2)) {n : Int32} (hn : ¬ n < 0) {cap : Nat} (hcap : n.toNatClampNeg ≤ cap) (hb : cap * 8 ≤ 536870912) (hc : cells + 1 ≤ R.cells) (hl : slots + cap ≤ R.slots) {ad : String} (had : "[" ++ (newarray.typeOf aty).toString = ad) (hp : pc + 2 = pc') (k : ∀ T' h', Stand p l e R s m args below meth c T' locs (cells + 1) (slots + cap) → T'.heap = h' → ∀ cA, Ext h h' → ∀ b, b = h.size → Arr Z h' b (newA cA (newarray.typeOf aty) n) (newarray.typeOf aty) → Exa Z h' b ad → Ends p.tables e below (T'.setTop (mkF m pc' ls (.ref b :: st))) P) : Ends p.tables e below (T.setTop (mkF m pc ls (.int n :: st))) P := by
  subst hp
  obtain ⟨T', h', cA, X', e', E, A, Ex, s'⟩ := newPE X hx hZ w eT (g := mkF m pc ls (.int n :: st)) rfl hd rfl hn hcap hb hc hl had
  exact own_via s' (k T' h' X' e' cA E _ rfl A Ex)
theorem s_newR (X : Stand p l e R s m args below meth c T locs cells slots) (hx : p.tables.exec = Jvm.exec) (hZ : Z.Warmed39 s.vm) {own C : String} {index : Nat} (hown : s.vm.findClass own = some m.cls) (w1 : (Jvm.Cond.classLink own index C).before a0 Z = true) (w2 : (Jvm.Cond.arrayOver (.object C)).before a0 Z = true) (eT : T.heap = h) (hd : decode c.code pc = .ok (.anewarray index, 3)) {n : Int32} (hn : ¬ n < 0) {cap : Nat} (hcap : n.toNatClampNeg ≤ cap) (hb : cap * 8 ≤ 536870912) (hc : cells + 1 ≤ R.cells) (hl : slots + cap ≤ R.slots) (hp : pc + 3 = pc') (k : ∀ T' h', Stand p l e R s m args below meth c T' locs (cells + 1) (slots + cap) → T'.heap = h' → ∀ cA, Ext h h' → ∀ b, b = h.size → Arr Z h' b (newA cA (.object C) n) (.object C) → Ends p.tables e below (T'.setTop (mkF m pc' ls (.ref b :: st))) P) : Ends p.tables e below (T.setTop (mkF m pc ls (.int n :: st))) P := by
  subst hp
  obtain ⟨T', h', cA, X', e', E, A, -, s'⟩ := newR X hx hZ hown w1 w2 eT (g := mkF m pc ls (.int n :: st)) rfl hd rfl hn hcap hb hc hl
  exact own_via s' (k T' h' X' e' cA E _ rfl A)
theorem s_stI (X : Stand p l e R s m args below meth c T locs cells slots) (hx : p.tables.exec = Jvm.exec) (hZ : Z.Warmed39 s.vm) (eT : T.heap = h) {a : Addr} {cl : Cell} (A : Arr Z h a cl .int) {j : Int32} {x : Int32} (hj : ¬ (j < 0 ∨ cl.slots.size ≤ j.toNatClampNeg)) (hd : decode c.code pc = .ok (.iastore, 1)) (hp : pc + 1 = pc') (k : ∀ T' h', Stand p l e R s m args below meth c T' (locs ++ [⟨a, j.toNatClampNeg⟩]) cells slots → T'.heap = h' → Wr h h' a j.toNatClampNeg (.int x) → Ends p.tables e below (T'.setTop (mkF m pc' ls st)) P) : Ends p.tables e below (T.setTop (mkF m pc ls (.int x :: .int j :: .ref a :: st))) P := by
  subst hp
  obtain ⟨T', h', X', e', W, s'⟩ := stI X hx hZ eT A (j := j) hj (g := mkF m pc ls (.int x :: .int j :: .ref a :: st)) rfl rfl hd
  exact own_via s' (k T' h' X' e' W)
theorem s_stJ (X : Stand p l e R s m args below meth c T locs cells slots) (hx : p.tables.exec = Jvm.exec) (hZ : Z.Warmed39 s.vm) (eT : T.heap = h) {a : Addr} {cl : Cell} (A : Arr Z h a cl .long) {j : Int32} {x : Int64} (hj : ¬ (j < 0 ∨ cl.slots.size ≤ j.toNatClampNeg)) (hd : decode c.code pc = .ok (.lastore, 1)) (hp : pc + 1 = pc') (k : ∀ T' h', Stand p l e R s m args below meth c T' (locs ++ [⟨a, j.toNatClampNeg⟩]) cells slots → T'.heap = h' → Wr h h' a j.toNatClampNeg (.long x) → Ends p.tables e below (T'.setTop (mkF m pc' ls st)) P) : Ends p.tables e below (T.setTop (mkF m pc ls (.long x :: .int j :: .ref a :: st))) P := by
  subst hp
  obtain ⟨T', h', X', e', W, s'⟩ := stJ X hx hZ eT A (j := j) hj (g := mkF m pc ls (.long x :: .int j :: .ref a :: st)) rfl rfl hd
  exact own_via s' (k T' h' X' e' W)
theorem s_stC (X : Stand p l e R s m args below meth c T locs cells slots) (hx : p.tables.exec = Jvm.exec) (hZ : Z.Warmed39 s.vm) (eT : T.heap = h) {a : Addr} {cl : Cell} (A : Arr Z h a cl .char) {j : Int32} {x : Int32} (hj : ¬ (j < 0 ∨ cl.slots.size ≤ j.toNatClampNeg)) (hd : decode c.code pc = .ok (.castore, 1)) (hp : pc + 1 = pc') (k : ∀ T' h', Stand p l e R s m args below meth c T' (locs ++ [⟨a, j.toNatClampNeg⟩]) cells slots → T'.heap = h' → Wr h h' a j.toNatClampNeg (.int (nar .char x)) → Ends p.tables e below (T'.setTop (mkF m pc' ls st)) P) : Ends p.tables e below (T.setTop (mkF m pc ls (.int x :: .int j :: .ref a :: st))) P := by
  subst hp
  obtain ⟨T', h', X', e', W, s'⟩ := stC X hx hZ eT A (j := j) hj (g := mkF m pc ls (.int x :: .int j :: .ref a :: st)) rfl rfl hd
  exact own_via s' (k T' h' X' e' W)
theorem s_stB (X : Stand p l e R s m args below meth c T locs cells slots) (hx : p.tables.exec = Jvm.exec) (hZ : Z.Warmed39 s.vm) (eT : T.heap = h) {a : Addr} {cl : Cell} (A : Arr Z h a cl .byte) {j : Int32} {x : Int32} (hj : ¬ (j < 0 ∨ cl.slots.size ≤ j.toNatClampNeg)) (hd : decode c.code pc = .ok (.bastore, 1)) (hp : pc + 1 = pc') (k : ∀ T' h', Stand p l e R s m args below meth c T' (locs ++ [⟨a, j.toNatClampNeg⟩]) cells slots → T'.heap = h' → Wr h h' a j.toNatClampNeg (.int (nar .byte x)) → Ends p.tables e below (T'.setTop (mkF m pc' ls st)) P) : Ends p.tables e below (T.setTop (mkF m pc ls (.int x :: .int j :: .ref a :: st))) P := by
  subst hp
  obtain ⟨T', h', X', e', W, s'⟩ := stB X hx hZ eT A (j := j) hj (g := mkF m pc ls (.int x :: .int j :: .ref a :: st)) rfl rfl hd
  exact own_via s' (k T' h' X' e' W)
theorem s_stN (X : Stand p l e R s m args below meth c T locs cells slots) (hx : p.tables.exec = Jvm.exec) (hZ : Z.Warmed39 s.vm) (eT : T.heap = h) {a : Addr} {cl : Cell} {ty : FieldType} (A : Arr Z h a cl ty) (hr : ty.isReference = true) {j : Int32} (hj : ¬ (j < 0 ∨ cl.slots.size ≤ j.toNatClampNeg)) (hd : decode c.code pc = .ok (.aastore, 1)) (hp : pc + 1 = pc') (k : ∀ T' h', Stand p l e R s m args below meth c T' (locs ++ [⟨a, j.toNatClampNeg⟩]) cells slots → T'.heap = h' → Wr h h' a j.toNatClampNeg .null → Ends p.tables e below (T'.setTop (mkF m pc' ls st)) P) : Ends p.tables e below (T.setTop (mkF m pc ls (.null :: .int j :: .ref a :: st))) P := by
  subst hp
  obtain ⟨T', h', X', e', W, s'⟩ := stR X hx hZ eT A (j := j) hj hr (Or.inl rfl) (g := mkF m pc ls (.null :: .int j :: .ref a :: st)) rfl rfl hd
  exact own_via s' (k T' h' X' e' W)
theorem s_iaload (X : Stand p l e R s m args below meth c T locs cells slots) (hx : p.tables.exec = Jvm.exec) (hZ : Z.Warmed39 s.vm) (eT : T.heap = h) {a : Addr} {k : ClassId} {z : Int32} {vs : List Value} {dv v : Value} {j : Int32} (F : Arv Z h a k .int z vs dv) (hj : ¬ j < 0 ∧ j < z) (hv : vs.getD j.toNatClampNeg dv = v) (hd : decode c.code pc = .ok (.iaload, 1)) (hp : pc + 1 = pc') (hr : Ends p.tables e below (T.setTop (mkF m pc' ls (v :: st))) P) : Ends p.tables e below (T.setTop (mkF m pc ls (.int j :: .ref a :: st))) P := by
  subst hp
  obtain ⟨cl, A, -, S, M, H, -⟩ := F
  have hin := inb_of S hj
  exact own_via (X.iaload hx (j := j) (v := v) (by rw [eT]; exact A.1) (State.isArrayOf_alike hZ.alike A.2.1) A.2.2 hin (H.at hin hv) (g := mkF m pc ls (.int j :: .ref a :: st)) rfl rfl hd) hr
theorem s_laload (X : Stand p l e R s m args below meth c T locs cells slots) (hx : p.tables.exec = Jvm.exec) (hZ : Z.Warmed39 s.vm) (eT : T.heap = h) {a : Addr} {k : ClassId} {z : Int32} {vs : List Value} {dv v : Value} {j : Int32} (F : Arv Z h a k .long z vs dv) (hj : ¬ j < 0 ∧ j < z) (hv : vs.getD j.toNatClampNeg dv = v) (hd : decode c.code pc = .ok (.laload, 1)) (hp : pc + 1 = pc') (hr : Ends p.tables e below (T.setTop (mkF m pc' ls (v :: st))) P) : Ends p.tables e below (T.setTop (mkF m pc ls (.int j :: .ref a :: st))) P := by
  subst hp
  obtain ⟨cl, A, -, S, M, H, -⟩ := F
  have hin := inb_of S hj
  exact own_via (X.laload hx (j := j) (v := v) (by rw [eT]; exact A.1) (State.isArrayOf_alike hZ.alike A.2.1) A.2.2 hin (H.at hin hv) (g := mkF m pc ls (.int j :: .ref a :: st)) rfl rfl hd) hr
theorem s_caload (X : Stand p l e R s m args below meth c T locs cells slots) (hx : p.tables.exec = Jvm.exec) (hZ : Z.Warmed39 s.vm) (eT : T.heap = h) {a : Addr} {k : ClassId} {z : Int32} {vs : List Value} {dv v : Value} {j : Int32} (F : Arv Z h a k .char z vs dv) (hj : ¬ j < 0 ∧ j < z) (hv : vs.getD j.toNatClampNeg dv = v) (hd : decode c.code pc = .ok (.caload, 1)) (hp : pc + 1 = pc') (hr : Ends p.tables e below (T.setTop (mkF m pc' ls (v :: st))) P) : Ends p.tables e below (T.setTop (mkF m pc ls (.int j :: .ref a :: st))) P := by
  subst hp
  obtain ⟨cl, A, -, S, M, H, -⟩ := F
  have hin := inb_of S hj
  exact own_via (X.caload hx (j := j) (v := v) (by rw [eT]; exact A.1) (State.isArrayOf_alike hZ.alike A.2.1) A.2.2 hin (H.at hin hv) (g := mkF m pc ls (.int j :: .ref a :: st)) rfl rfl hd) hr
theorem s_baload (X : Stand p l e R s m args below meth c T locs cells slots) (hx : p.tables.exec = Jvm.exec) (hZ : Z.Warmed39 s.vm) (eT : T.heap = h) {a : Addr} {k : ClassId} {z : Int32} {vs : List Value} {dv v : Value} {j : Int32} (F : Arv Z h a k .byte z vs dv) (hj : ¬ j < 0 ∧ j < z) (hv : vs.getD j.toNatClampNeg dv = v) (hd : decode c.code pc = .ok (.baload, 1)) (hp : pc + 1 = pc') (hr : Ends p.tables e below (T.setTop (mkF m pc' ls (v :: st))) P) : Ends p.tables e below (T.setTop (mkF m pc ls (.int j :: .ref a :: st))) P := by
  subst hp
  obtain ⟨cl, A, -, S, M, H, -⟩ := F
  have hin := inb_of S hj
  exact own_via (X.baloadBytes hx (j := j) (v := v) (by rw [eT]; exact A.1) (State.isArrayOf_alike hZ.alike A.2.1) A.2.2 hin (H.at hin hv) (g := mkF m pc ls (.int j :: .ref a :: st)) rfl rfl hd) hr
theorem s_arraylength (X : Stand p l e R s m args below meth c T locs cells slots) (hx : p.tables.exec = Jvm.exec) (hZ : Z.Warmed39 s.vm) (eT : T.heap = h) {a : Addr} {k : ClassId} {ty : FieldType} {z : Int32} {vs : List Value} {dv : Value} (F : Arv Z h a k ty z vs dv) (hd : decode c.code pc = .ok (.arraylength, 1)) (hp : pc + 1 = pc') (hr : Ends p.tables e below (T.setTop (mkF m pc' ls (.int z :: st))) P) : Ends p.tables e below (T.setTop (mkF m pc ls (.ref a :: st))) P := by
  subst hp
  obtain ⟨cl, A, -, S, M, H, -⟩ := F
  refine own_via (X.arraylength hx (by rw [eT]; exact A.1) (State.isArrayOf_alike hZ.alike A.2.1) (g := mkF m pc ls (.ref a :: st)) rfl rfl hd) ?_
  rw [len_of S M]
  exact hr
theorem own_set {a : Addr} {k : ClassId} {ty : FieldType} {z : Int32} {vs : List Value} {dv v : Value} {j : Int32} {cl : Cell} {h' : Heap} (F : ∃ c : Cell, c = cl ∧ Arr Z h a c ty ∧ c.cls = k ∧ c.slots.size = z.toNatClampNeg ∧ ¬ z < 0 ∧ Has c vs dv ∧ ∀ i, i < c.slots.size → fits ty (vs.getD i dv) = true) (hv : fits ty v = true) (W : Wr h h' a j.toNatClampNeg v) (i : Nat) (hj : j.toNatClampNeg = i) (hi : i < vs.length) : Arv Z h' a k ty z (vs.set i v) dv := by
  obtain ⟨c, rfl, A, q1, S, M, H, G⟩ := F
  exact Arv.set A q1 S M H G hv W i hj hi
theorem s_putI (X : Stand p l e R s m args below meth c T locs cells slots) (hx : p.tables.exec = Jvm.exec) (hZ : Z.Warmed39 s.vm) (eT : T.heap = h) {a : Addr} {k : ClassId} {z : Int32} {vs : List Value} {dv : Value} {j : Int32} {x : Int32} (F : Arv Z h a k .int z vs dv) (hj : ¬ j < 0 ∧ j < z) (i : Nat) (hi : j.toNatClampNeg = i) (hl : i < vs.length) (hd : decode c.code pc = .ok (.iastore, 1)) (hp : pc + 1 = pc') (kk : ∀ T' h', Stand p l e R s m args below meth c T' (locs ++ [⟨a, j.toNatClampNeg⟩]) cells slots → T'.heap = h' → Wr h h' a j.toNatClampNeg (.int x) → Arv Z h' a k .int z (vs.set i (.int x)) dv → Ends p.tables e below (T'.setTop (mkF m pc' ls st)) P) : Ends p.tables e below (T.setTop (mkF m pc ls (.int x :: .int j :: .ref a :: st))) P := by
  obtain ⟨cl, A, q1, S, M, H, G⟩ := F
  exact s_stI X hx hZ eT A (inb_of S hj) hd hp fun T' h' X' e' W => kk T' h' X' e' W (Arv.set A q1 S M H G rfl W i hi hl)
theorem s_putJ (X : Stand p l e R s m args below meth c T locs cells slots) (hx : p.tables.exec = Jvm.exec) (hZ : Z.Warmed39 s.vm) (eT : T.heap = h) {a : Addr} {k : ClassId} {z : Int32} {vs : List Value} {dv : Value} {j : Int32} {x : Int64} (F : Arv Z h a k .long z vs dv) (hj : ¬ j < 0 ∧ j < z) (i : Nat) (hi : j.toNatClampNeg = i) (hl : i < vs.length) (hd : decode c.code pc = .ok (.lastore, 1)) (hp : pc + 1 = pc') (kk : ∀ T' h', Stand p l e R s m args below meth c T' (locs ++ [⟨a, j.toNatClampNeg⟩]) cells slots → T'.heap = h' → Wr h h' a j.toNatClampNeg (.long x) → Arv Z h' a k .long z (vs.set i (.long x)) dv → Ends p.tables e below (T'.setTop (mkF m pc' ls st)) P) : Ends p.tables e below (T.setTop (mkF m pc ls (.long x :: .int j :: .ref a :: st))) P := by
  obtain ⟨cl, A, q1, S, M, H, G⟩ := F
  exact s_stJ X hx hZ eT A (inb_of S hj) hd hp fun T' h' X' e' W => kk T' h' X' e' W (Arv.set A q1 S M H G rfl W i hi hl)
theorem s_putC (X : Stand p l e R s m args below meth c T locs cells slots) (hx : p.tables.exec = Jvm.exec) (hZ : Z.Warmed39 s.vm) (eT : T.heap = h) {a : Addr} {k : ClassId} {z : Int32} {vs : List Value} {dv : Value} {j : Int32} {x : Int32} (F : Arv Z h a k .char z vs dv) (hj : ¬ j < 0 ∧ j < z) (i : Nat) (hi : j.toNatClampNeg = i) (hl : i < vs.length) (hd : decode c.code pc = .ok (.castore, 1)) (hp : pc + 1 = pc') (kk : ∀ T' h', Stand p l e R s m args below meth c T' (locs ++ [⟨a, j.toNatClampNeg⟩]) cells slots → T'.heap = h' → Wr h h' a j.toNatClampNeg (.int (nar .char x)) → Arv Z h' a k .char z (vs.set i (.int (nar .char x))) dv → Ends p.tables e below (T'.setTop (mkF m pc' ls st)) P) : Ends p.tables e below (T.setTop (mkF m pc ls (.int x :: .int j :: .ref a :: st))) P := by
  obtain ⟨cl, A, q1, S, M, H, G⟩ := F
  exact s_stC X hx hZ eT A (inb_of S hj) hd hp fun T' h' X' e' W => kk T' h' X' e' W (Arv.set A q1 S M H G (fits_nar_char _) W i hi hl)
theorem s_putB (X : Stand p l e R s m args below meth c T locs cells slots) (hx : p.tables.exec = Jvm.exec) (hZ : Z.Warmed39 s.vm) (eT : T.heap = h) {a : Addr} {k : ClassId} {z : Int32} {vs : List Value} {dv : Value} {j : Int32} {x : Int32} (F : Arv Z h a k .byte z vs dv) (hj : ¬ j < 0 ∧ j < z) (i : Nat) (hi : j.toNatClampNeg = i) (hl : i < vs.length) (hd : decode c.code pc = .ok (.bastore, 1)) (hp : pc + 1 = pc') (kk : ∀ T' h', Stand p l e R s m args below meth c T' (locs ++ [⟨a, j.toNatClampNeg⟩]) cells slots → T'.heap = h' → Wr h h' a j.toNatClampNeg (.int (nar .byte x)) → Arv Z h' a k .byte z (vs.set i (.int (nar .byte x))) dv → Ends p.tables e below (T'.setTop (mkF m pc' ls st)) P) : Ends p.tables e below (T.setTop (mkF m pc ls (.int x :: .int j :: .ref a :: st))) P := by
  obtain ⟨cl, A, q1, S, M, H, G⟩ := F
  exact s_stB X hx hZ eT A (inb_of S hj) hd hp fun T' h' X' e' W => kk T' h' X' e' W (Arv.set A q1 S M H G (fits_nar_byte _) W i hi hl)
theorem s_initO (X : Stand p l e R s m args below meth c T locs cells slots) (hx : p.tables.exec = Jvm.exec) (hZ : Z.Warmed39 s.vm) {own : String} {idx : Nat} (hown : s.vm.findClass own = some m.cls) (w1 : (Jvm.Cond.methodLink own idx Lib.objectInit).before a0 Z = true) (w2 : (Jvm.Cond.instanceMethod Lib.objectInit).before a0 Z = true) (w3 : (Jvm.Cond.code Lib.objectInit ⟨#[0xb1]⟩ 1 none).before a0 Z = true) (eT : T.heap = h) (hsize : ls.size = c.maxLocals) {a : Addr} (hd : decode c.code pc = .ok (.invokespecial idx, 3)) (hf : 1 ≤ R.frames) {W : Nat} (hW : (st.map fun v => v.category).sum ≤ W) (hl : W + 12 ≤ R.locals) (hp : pc + 3 = pc') (k : ∀ T', Stand p l e R s m args below meth c T' locs cells slots → T'.heap = h → Ends p.tables e below (T'.setTop (mkF m pc' ls st)) P) : Ends p.tables e below (T.setTop (mkF m pc ls (.ref a :: st))) P := by
  subst hp
  obtain ⟨T', X', e', s'⟩ := initO X hx hZ hown w1 w2 w3 eT (g := mkF m pc ls (.ref a :: st)) rfl hsize rfl hd hf (W := W) (by show 2 * 0 + _ ≤ _; omega) hl
  exact own_via s' (k T' X' e')
theorem s_castY (X : Stand p l e R s m args below meth c T locs cells slots) (hx : p.tables.exec = Jvm.exec) (hZ : Z.Warmed39 s.vm) {own K : String} {index : Nat} (hown : s.vm.findClass own = some m.cls) (w : (Jvm.Cond.classLink own index K).before a0 Z = true) (eT : T.heap = h) {a : Addr} (F : Ins Z h a K true) (hd : decode c.code pc = .ok (.checkcast index, 3)) (hp : pc + 3 = pc') (k : ∀ T', Stand p l e R s m args below meth c T' locs cells slots → T'.heap = h → Ends p.tables e below (T'.setTop (mkF m pc' ls (.ref a :: st))) P) : Ends p.tables e below (T.setTop (mkF m pc ls (.ref a :: st))) P := by
  subst hp
  obtain ⟨T', X', e', s'⟩ := castY X hx hZ hown w eT F (g := mkF m pc ls (.ref a :: st)) rfl rfl hd
  exact own_via s' (k T' X' e')
theorem s_instY (X : Stand p l e R s m args below meth c T locs cells slots) (hx : p.tables.exec = Jvm.exec) (hZ : Z.Warmed39 s.vm) {own K : String} {index : Nat} (hown : s.vm.findClass own = some m.cls) (w : (Jvm.Cond.classLink own index K).before a0 Z = true) (eT : T.heap = h) {a : Addr} (F : Ins Z h a K true) (hd : decode c.code pc = .ok (.instanceof index, 3)) (hp : pc + 3 = pc') (k : ∀ T', Stand p l e R s m args below meth c T' locs cells slots → T'.heap = h → Ends p.tables e below (T'.setTop (mkF m pc' ls (.int 1 :: st))) P) : Ends p.tables e below (T.setTop (mkF m pc ls (.ref a :: st))) P := by
  subst hp
  obtain ⟨T', X', e', s'⟩ := instY X hx hZ hown w eT F (g := mkF m pc ls (.ref a :: st)) rfl rfl hd
  exact own_via s' (k T' X' e')
theorem s_callS (X : Stand p l e R s m args below meth c T locs cells slots) (hx : p.tables.exec = Jvm.exec) (hZ : Z.Warmed39 s.vm) {y : MethodName} {bytes : ByteArray} {maxL : Nat} {ret : Option FieldType} {rm : Room} {W : Nat} {as' : Array Value} {Q : Option Value → Heap → List Loc → Prop} {own : String} {index : Nat} (hown : s.vm.findClass own = some m.cls) (w1 : (Jvm.Cond.methodLink own index y).before a0 Z = true) (w2 : (Jvm.Cond.static y).before a0 Z = true) (w3 : (Jvm.Cond.initialized y.cls).before a0 Z = true) (w4 : (Jvm.Cond.code y bytes maxL ret).before a0 Z = true) (hy : y.cls ≠ "java/lang/invoke/MethodHandle" ∧ y.cls ≠ "java/lang/invoke/VarHandle") (eT : T.heap = h) (hM : MetFree l y (head1 [Jvm.Cond.code y bytes maxL ret] rm) (fun a U => a = as' ∧ Z.Warmed39 U.vm ∧ U.heap = h) (fun _ _ _ _ _ => True) (fun _ U o U' => ∃ v L, o = .returned v ∧ Q v U'.heap L ∧ FrameEnd U o U' L rm.cells rm.slots)) (hsize : ls.size = c.maxLocals) (argsL rest : List Value) (has : as' = argsL.toArray) (hlen : ∀ sig, parseMethodDescriptor y.desc = some sig → argsL.length = sig.parameters.length) (hstack : st = argsL.reverse ++ rest) (hW : (rest.map fun v => v.category).sum ≤ W) (hf : rm.frames + 1 ≤ R.frames) (hl : W + (maxL + 11) + rm.locals ≤ R.locals) (hce : cells + rm.cells ≤ R.cells) (hsl : slots + rm.slots ≤ R.slots) (hp : pc + 3 = pc') (hd : decode c.code pc = .ok (.invokestatic index, 3)) (k : ∀ T' v L, Stand p l e R s m args below meth c T' (locs ++ L) (cells + rm.cells) (slots + rm.slots) → Q v T'.heap L → Ends p.tables e below (T'.setTop (mkF m pc' ls (v.toList ++ rest))) P) : Ends p.tables e below (T.setTop (mkF m pc ls st)) P := by
  subst hp has hstack
  obtain ⟨v, _, ⟨T', _, _, _⟩, -, X', ⟨L, hQ, e1, e2, e3⟩, s'⟩ := Jvm.LawKit.callS X hx (y := y) hown (mvT hZ w1) (mvT hZ w2) (mvT hZ w3) (mvT hZ w4) hy (backOf (W := W) hM hZ w4 w3 hf hl) (g := mkF m pc ls (argsL.reverse ++ rest)) rfl hsize (argsL := argsL) (rest := rest) hlen rfl (by show 2 * 0 + _ ≤ _; omega) hd (fun _ _ => ⟨rfl, eT, hce, hsl⟩)
  dsimp only [Pt.U, Pt.locs, Pt.cells, Pt.slots] at X' e1 e2 e3 s' hQ
  subst e1 e2 e3
  exact own_via s' (k T' v L X' hQ)
theorem s_callI (X : Stand p l e R s m args below meth c T locs cells slots) (hx : p.tables.exec = Jvm.exec) (hZ : Z.Warmed39 s.vm) {y : MethodName} {bytes : ByteArray} {maxL : Nat} {rm : Room} {W : Nat} {as' : Array Value} {Q : Option Value → Heap → List Loc → Prop} {own : String} {index : Nat} (hy1 : y.name = "<init>") (hown : s.vm.findClass own = some m.cls) (w1 : (Jvm.Cond.methodLink own index y).before a0 Z = true) (w2 : (Jvm.Cond.instanceMethod y).before a0 Z = true) (w3 : (Jvm.Cond.initialized y.cls).before a0 Z = true) (w4 : (Jvm.Cond.code y bytes maxL none).before a0 Z = true) (hy : y.cls ≠ "java/lang/invoke/MethodHandle" ∧ y.cls ≠ "java/lang/invoke/VarHandle") (eT : T.heap = h) (hM : MetFree l y (head1 [Jvm.Cond.code y bytes maxL none] rm) (fun a U => a = as' ∧ Z.Warmed39 U.vm ∧ U.heap = h) (fun _ _ _ _ _ => True) (fun _ U o U' => ∃ v L, o = .returned v ∧ Q v U'.heap L ∧ FrameEnd U o U' L rm.cells rm.slots)) (a : Addr) (hsize : ls.size = c.maxLocals) (argsL rest : List Value) (has : as' = (.ref a :: argsL).toArray) (hlen : ∀ sig, parseMethodDescriptor y.desc = some sig → argsL.length = sig.parameters.length) (hstack : st = argsL.reverse ++ .ref a :: rest) (hW : (rest.map fun v => v.category).sum ≤ W) (hf : rm.frames + 1 ≤ R.frames) (hl : W + (maxL + 11) + rm.locals ≤ R.locals) (hce : cells + rm.cells ≤ R.cells) (hsl : slots + rm.slots ≤ R.slots) (hp : pc + 3 = pc') (hd : decode c.code pc = .ok (.invokespecial index, 3)) (k : ∀ T' v L, Stand p l e R s m args below meth c T' (locs ++ L) (cells + rm.cells) (slots + rm.slots) → Q v T'.heap L → Ends p.tables e below (T'.setTop (mkF m pc' ls (v.toList ++ rest))) P) : Ends p.tables e below (T.setTop (mkF m pc ls st)) P := by
  subst hp has hstack
  obtain ⟨v, _, ⟨T', _, _, _⟩, -, X', ⟨L, hQ, e1, e2, e3⟩, s'⟩ := X.specialBack hx (y := y) hy1 hown (mvT hZ w1) (mvT hZ w2) (mvT hZ w4) hy (backOf (W := W) hM hZ w4 w3 hf hl) (g := mkF m pc ls (argsL.reverse ++ .ref a :: rest)) rfl hsize (Steps.refl _) (a := a) (argsL := argsL) (rest := rest) hlen rfl (by show 2 * 0 + _ ≤ _; omega) hd (fun _ _ => ⟨rfl, eT, hce, hsl⟩)
  dsimp only [Pt.U, Pt.locs, Pt.cells, Pt.slots] at X' e1 e2 e3 s' hQ
  subst e1 e2 e3
  exact own_via (fun t_ k_ => s'.trans k_) (k T' v L X' hQ)
theorem s_callV (X : Stand p l e R s m args below meth c T locs cells slots) (hx : p.tables.exec = Jvm.exec) (hZ : Z.Warmed39 s.vm) {y : MethodName} {bytes : ByteArray} {maxL : Nat} {ret : Option FieldType} {rm : Room} {W : Nat} {as' : Array Value} {Q : Option Value → Heap → List Loc → Prop} {a : Addr} {own C : String} {index : Nat} (hown : s.vm.findClass own = some m.cls) (w1 : (Jvm.Cond.methodLink own index y).before a0 Z = true) (w2 : (Jvm.Cond.declares y).before a0 Z = true) (w3 : (Jvm.Cond.initialized y.cls).before a0 Z = true) (w4 : (Jvm.Cond.code y bytes maxL ret).before a0 Z = true) (w5 : (Jvm.Cond.selects C y y).before a0 Z = true) (w6 : (Jvm.Cond.instanceMethod y).before a0 Z = true) (hy : y.cls ≠ "java/lang/invoke/MethodHandle" ∧ y.cls ≠ "java/lang/invoke/VarHandle") (eT : T.heap = h) (E : Exa Z h a C) (hM : MetFree l y (head1 [Jvm.Cond.code y bytes maxL ret] rm) (fun a U => a = as' ∧ Z.Warmed39 U.vm ∧ U.heap = h) (fun _ _ _ _ _ => True) (fun _ U o U' => ∃ v L, o = .returned v ∧ Q v U'.heap L ∧ FrameEnd U o U' L rm.cells rm.slots)) (hsize : ls.size = c.maxLocals) (argsL rest : List Value) (has : as' = (.ref a :: argsL).toArray) (hlen : ∀ sig, parseMethodDescriptor y.desc = some sig → argsL.length = sig.parameters.length) (hstack : st = argsL.reverse ++ .ref a :: rest) (hW : (rest.map fun v => v.category).sum ≤ W) (hf : rm.frames + 1 ≤ R.frames) (hl : W + (maxL + 11) + rm.locals ≤ R.locals) (hce : cells + rm.cells ≤ R.cells) (hsl : slots + rm.slots ≤ R.slots) (hp : pc + 3 = pc') (hd : decode c.code pc = .ok (.invokevirtual index, 3)) (k : ∀ T' v L, Stand p l e R s m args below meth c T' (locs ++ L) (cells + rm.cells) (slots + rm.slots) → Q v T'.heap L → Ends p.tables e below (T'.setTop (mkF m pc' ls (v.toList ++ rest))) P) : Ends p.tables e below (T.setTop (mkF m pc ls st)) P := by
  subst hp has hstack
  obtain ⟨cq, kq, qa, qb, qc⟩ := isOf hZ eT E
  obtain ⟨v, _, ⟨T', _, _, _⟩, -, X', ⟨L, hQ, e1, e2, e3⟩, s'⟩ := X.virtualBack hx (y := y) (z := y) hown (mvT hZ w1) (mvT hZ w2) (notFace_of_selects (args := #[]) (mvT hZ w5)) (mvT hZ w5) (mvT hZ w6) hy (backOf (W := W) hM hZ w4 w3 hf hl) qa qc (g := mkF m pc ls (argsL.reverse ++ .ref a :: rest)) rfl hsize (Steps.refl _) (argsL := argsL) (rest := rest) hlen rfl (by show 2 * 0 + _ ≤ _; omega) hd (fun _ _ => ⟨rfl, eT, hce, hsl⟩)
  dsimp only [Pt.U, Pt.locs, Pt.cells, Pt.slots] at X' e1 e2 e3 s' hQ
  subst e1 e2 e3
  exact own_via (fun t_ k_ => s'.trans k_) (k T' v L X' hQ)
theorem s_callP (X : Stand p l e R s m args below meth c T locs cells slots) (hx : p.tables.exec = Jvm.exec) (hZ : Z.Warmed39 s.vm) {y : MethodName} {bytes : ByteArray} {maxL : Nat} {ret : Option FieldType} {rm : Room} {W : Nat} {as' : Array Value} {Q : Option Value → Heap → List Loc → Prop} {a : Addr} {own C : String} {index : Nat} {zz : MethodName} (hzz : zz.cls = y.cls) (hown : s.vm.findClass own = some m.cls) (w1 : (Jvm.Cond.methodLink own index y).before a0 Z = true) (w2 : (Jvm.Cond.privateMethod y).before a0 Z = true) (w3 : (Jvm.Cond.initialized y.cls).before a0 Z = true) (w4 : (Jvm.Cond.code y bytes maxL ret).before a0 Z = true) (w5 : (Jvm.Cond.selects zz.cls zz zz).before a0 Z = true) (w6 : (Jvm.Cond.instanceMethod y).before a0 Z = true) (hy : y.cls ≠ "java/lang/invoke/MethodHandle" ∧ y.cls ≠ "java/lang/invoke/VarHandle") (eT : T.heap = h) (E : Exa Z h a C) (hM : MetFree l y (head1 [Jvm.Cond.code y bytes maxL ret] rm) (fun a U => a = as' ∧ Z.Warmed39 U.vm ∧ U.heap = h) (fun _ _ _ _ _ => True) (fun _ U o U' => ∃ v L, o = .returned v ∧ Q v U'.heap L ∧ FrameEnd U o U' L rm.cells rm.slots)) (hsize : ls.size = c.maxLocals) (argsL rest : List Value) (has : as' = (.ref a :: argsL).toArray) (hlen : ∀ sig, parseMethodDescriptor y.desc = some sig → argsL.length = sig.parameters.length) (hstack : st = argsL.reverse ++ .ref a :: rest) (hW : (rest.map fun v => v.category).sum ≤ W) (hf : rm.frames + 1 ≤ R.frames) (hl : W + (maxL + 11) + rm.locals ≤ R.locals) (hce : cells + rm.cells ≤ R.cells) (hsl : slots + rm.slots ≤ R.slots) (hp : pc + 3 = pc') (hd : decode c.code pc = .ok (.invokevirtual index, 3)) (k : ∀ T' v L, Stand p l e R s m args below meth c T' (locs ++ L) (cells + rm.cells) (slots + rm.slots) → Q v T'.heap L → Ends p.tables e below (T'.setTop (mkF m pc' ls (v.toList ++ rest))) P) : Ends p.tables e below (T.setTop (mkF m pc ls st)) P := by
  subst hp has hstack
  obtain ⟨cq, qa, qb⟩ := E.cell
  have hpr := Cond.privateMethod_at (mvP hZ w2 (args := #[]))
  obtain ⟨v, _, ⟨T', _, _, _⟩, -, X', ⟨L, hQ, e1, e2, e3⟩, s'⟩ := X.privateBack hx (y := y) hown (mvT hZ w1) (mvT hZ w6) (own_selPriv hzz (mvT hZ w5) hpr (mvT hZ w6) hy) hpr (mvT hZ w4) hy (backOf (W := W) hM hZ w4 w3 hf hl) (g := mkF m pc ls (argsL.reverse ++ .ref a :: rest)) rfl hsize (Steps.refl _) (a := a) (by rw [eT]; exact qa) qb (argsL := argsL) (rest := rest) hlen rfl (by show 2 * 0 + _ ≤ _; omega) hd (fun _ _ => ⟨rfl, eT, hce, hsl⟩)
  dsimp only [Pt.U, Pt.locs, Pt.cells, Pt.slots] at X' e1 e2 e3 s' hQ
  subst e1 e2 e3
  exact own_via (fun t_ k_ => s'.trans k_) (k T' v L X' hQ)
theorem s_irem (X : Stand p l e R s m args below meth c T locs cells slots) (hx : p.tables.exec = Jvm.exec) {x y : Int32} (hd : decode c.code pc = .ok (.irem, 1)) (hy : y ≠ 0) (hp : pc + 1 = pc') (hr : Ends p.tables e below (T.setTop (mkF m pc' ls (.int (x % y) :: st))) P) : Ends p.tables e below (T.setTop (mkF m pc ls (.int y :: .int x :: st))) P := by
  subst hp
  exact own_via (fun t_ k_ => iremM X hx rfl hd rfl hy k_) hr
theorem s_ldcI (X : Stand p l e R s m args below meth c T locs cells slots) (hx : p.tables.exec = Jvm.exec) (hZ : Z.Warmed39 s.vm) {own : String} {index : Nat} {v : Int32} (hown : s.vm.findClass own = some m.cls) (w : (Jvm.Cond.constant own index v).before a0 Z = true) (hd : decode c.code pc = .ok (.ldc index, 2)) (hp : pc + 2 = pc') (hr : Ends p.tables e below (T.setTop (mkF m pc' ls (.int v :: st))) P) : Ends p.tables e below (T.setTop (mkF m pc ls st)) P := by
  subst hp
  exact own_via (X.ldcInt hx hown (mvT hZ w) (g := mkF m pc ls st) rfl hd) hr
theorem s_ldcJ (X : Stand p l e R s m args below meth c T locs cells slots) (hx : p.tables.exec = Jvm.exec) (hZ : Z.Warmed39 s.vm) {own : String} {index : Nat} {v : Int64} (hown : s.vm.findClass own = some m.cls) (w : (Jvm.Cond.constantLong own index v).before a0 Z = true) (hd : decode c.code pc = .ok (.ldc2_w index, 3)) (hp : pc + 3 = pc') (hr : Ends p.tables e below (T.setTop (mkF m pc' ls (.long v :: st))) P) : Ends p.tables e below (T.setTop (mkF m pc ls st)) P := by
  subst hp
  exact own_via (X.ldc2Long hx hown (mvT hZ w) (g := mkF m pc ls st) rfl hd) hr
theorem s_callSS {vm0 : Vm} (X : Stand p l e R (s.setVm vm0) m args below meth c T locs cells slots) (hx : p.tables.exec = Jvm.exec) (hZ : Z.Warmed39 (s.setVm vm0).vm) {k0 : Nat} (hS : s.Since vm0 k0) (hk : k0 ≤ h.size) {y : MethodName} {bytes : ByteArray} {maxL : Nat} {ret : Option FieldType} {rm : Room} {W : Nat} {as' : Array Value} {Q : Option Value → Heap → List Loc → Prop} {own : String} {index : Nat} (hown : (s.setVm vm0).vm.findClass own = some m.cls) (w1 : (Jvm.Cond.methodLink own index y).before a0 Z = true) (w2 : (Jvm.Cond.static y).before a0 Z = true) (w3 : (Jvm.Cond.initialized y.cls).before a0 Z = true) (w4 : (Jvm.Cond.code y bytes maxL ret).before a0 Z = true) (hy : y.cls ≠ "java/lang/invoke/MethodHandle" ∧ y.cls ≠ "java/lang/invoke/VarHandle") (eT : T.heap = h) (hM : MetFree l y (head1 [Jvm.Cond.code y bytes maxL ret] rm) (fun a U => a = as' ∧ Z.Warmed39 U.vm ∧ U.heap = h) (fun _ _ _ _ _ => True) (fun _ U o U' => ∃ v L, o = .returned v ∧ Q v U'.heap L ∧ ReturnedEndW U o U' L rm.cells rm.slots)) (hsize : ls.size = c.maxLocals) (argsL rest : List Value) (has : as' = argsL.toArray) (hlen : ∀ sig, parseMethodDescriptor y.desc = some sig → argsL.length = sig.parameters.length) (hstack : st = argsL.reverse ++ rest) (hW : (rest.map fun v => v.category).sum ≤ W) (hf : rm.frames + 1 ≤ R.frames) (hl : W + (maxL + 11) + rm.locals ≤ R.locals) (hce : cells + rm.cells ≤ R.cells) (hsl : slots + rm.slots ≤ R.slots) (hp : pc + 3 = pc') (hd : decode c.code pc = .ok (.invokestatic index, 3)) (k : ∀ T' v L, Stand p l e R (s.setVm T'.vm) m args below meth c T' (locs ++ L) (cells + rm.cells) (slots + rm.slots) → s.Since T'.vm T'.heap.size → Z.Warmed39 (s.setVm T'.vm).vm → (s.setVm T'.vm).vm.findClass own = some m.cls → Q v T'.heap L → Ends p.tables e below (T'.setTop (mkF m pc' ls (v.toList ++ rest))) P) : Ends p.tables e below (T.setTop (mkF m pc ls st)) P := by
  subst hp has hstack
  obtain ⟨v, _, ⟨T', _, _, _⟩, -, X', S', g', ⟨L, hQ, e1, e2, e3⟩, s'⟩ := callSS X hx (y := y) hown (mvT hZ w1) (mvT hZ w2) (mvT hZ w3) (mvT hZ w4) hy (backOfS (W := W) hM hZ w4 w3 hf hl) (g := mkF m pc ls (argsL.reverse ++ rest)) rfl hsize (argsL := argsL) (rest := rest) hlen rfl (by show 2 * 0 + _ ≤ _; omega) hd (fun _ _ => ⟨rfl, eT, hce, hsl⟩)
  dsimp only [Pt.U, Pt.locs, Pt.cells, Pt.slots] at X' S' g' e1 e2 e3 s' hQ
  subst e1 e2 e3
  obtain ⟨X2, S2, Z2, o2⟩ := rebS hS (show _ ≤ T.heap.size by rw [eT]; exact hk) X' S' g' hZ hown
  exact own_via (fun t_ k_ => s'.trans k_) (k T' v L X2 S2 Z2 o2 hQ)
theorem s_callIS {vm0 : Vm} (X : Stand p l e R (s.setVm vm0) m args below meth c T locs cells slots) (hx : p.tables.exec = Jvm.exec) (hZ : Z.Warmed39 (s.setVm vm0).vm) {k0 : Nat} (hS : s.Since vm0 k0) (hk : k0 ≤ h.size) {y : MethodName} {bytes : ByteArray} {maxL : Nat} {rm : Room} {W : Nat} {as' : Array Value} {Q : Option Value → Heap → List Loc → Prop} {own : String} {index : Nat} (hown : (s.setVm vm0).vm.findClass own = some m.cls) (hy1 : y.name = "<init>") (w1 : (Jvm.Cond.methodLink own index y).before a0 Z = true) (w2 : (Jvm.Cond.instanceMethod y).before a0 Z = true) (w3 : (Jvm.Cond.initialized y.cls).before a0 Z = true) (w4 : (Jvm.Cond.code y bytes maxL none).before a0 Z = true) (hy : y.cls ≠ "java/lang/invoke/MethodHandle" ∧ y.cls ≠ "java/lang/invoke/VarHandle") (eT : T.heap = h) (hM : MetFree l y (head1 [Jvm.Cond.code y bytes maxL none] rm) (fun a U => a = as' ∧ Z.Warmed39 U.vm ∧ U.heap = h) (fun _ _ _ _ _ => True) (fun _ U o U' => ∃ v L, o = .returned v ∧ Q v U'.heap L ∧ ReturnedEndW U o U' L rm.cells rm.slots)) (a : Addr) (hsize : ls.size = c.maxLocals) (argsL rest : List Value) (has : as' = (.ref a :: argsL).toArray) (hlen : ∀ sig, parseMethodDescriptor y.desc = some sig → argsL.length = sig.parameters.length) (hstack : st = argsL.reverse ++ .ref a :: rest) (hW : (rest.map fun v => v.category).sum ≤ W) (hf : rm.frames + 1 ≤ R.frames) (hl : W + (maxL + 11) + rm.locals ≤ R.locals) (hce : cells + rm.cells ≤ R.cells) (hsl : slots + rm.slots ≤ R.slots) (hp : pc + 3 = pc') (hd : decode c.code pc = .ok (.invokespecial index, 3)) (k : ∀ T' v L, Stand p l e R (s.setVm T'.vm) m args below meth c T' (locs ++ L) (cells + rm.cells) (slots + rm.slots) → s.Since T'.vm T'.heap.size → Z.Warmed39 (s.setVm T'.vm).vm → (s.setVm T'.vm).vm.findClass own = some m.cls → Q v T'.heap L → Ends p.tables e below (T'.setTop (mkF m pc' ls (v.toList ++ rest))) P) : Ends p.tables e below (T.setTop (mkF m pc ls st)) P := by
  subst hp has hstack
  obtain ⟨v, _, ⟨T', _, _, _⟩, -, X', S', g', ⟨L, hQ, e1, e2, e3⟩, s'⟩ := X.specialBackS hx (y := y) hy1 hown (mvT hZ w1) (mvT hZ w2) (mvT hZ w4) hy (backOfS (W := W) hM hZ w4 w3 hf hl) (g := mkF m pc ls (argsL.reverse ++ .ref a :: rest)) rfl hsize (Steps.refl _) (a := a) (argsL := argsL) (rest := rest) hlen rfl (by show 2 * 0 + _ ≤ _; omega) hd (fun _ _ => ⟨rfl, eT, hce, hsl⟩)
  dsimp only [Pt.U, Pt.locs, Pt.cells, Pt.slots] at X' S' g' e1 e2 e3 s' hQ
  subst e1 e2 e3
  obtain ⟨X2, S2, Z2, o2⟩ := rebS hS (show _ ≤ T.heap.size by rw [eT]; exact hk) X' S' g' hZ hown
  exact own_via (fun t_ k_ => s'.trans k_) (k T' v L X2 S2 Z2 o2 hQ)
theorem s_callVS {vm0 : Vm} (X : Stand p l e R (s.setVm vm0) m args below meth c T locs cells slots) (hx : p.tables.exec = Jvm.exec) (hZ : Z.Warmed39 (s.setVm vm0).vm) {k0 : Nat} (hS : s.Since vm0 k0) (hk : k0 ≤ h.size) {y : MethodName} {bytes : ByteArray} {maxL : Nat} {ret : Option FieldType} {rm : Room} {W : Nat} {as' : Array Value} {Q : Option Value → Heap → List Loc → Prop} {a : Addr} {C : String} {own : String} {index : Nat} (hown : (s.setVm vm0).vm.findClass own = some m.cls) (w1 : (Jvm.Cond.methodLink own index y).before a0 Z = true) (w2 : (Jvm.Cond.declares y).before a0 Z = true) (w3 : (Jvm.Cond.initialized y.cls).before a0 Z = true) (w4 : (Jvm.Cond.code y bytes maxL ret).before a0 Z = true) (w5 : (Jvm.Cond.selects C y y).before a0 Z = true) (w6 : (Jvm.Cond.instanceMethod y).before a0 Z = true) (hy : y.cls ≠ "java/lang/invoke/MethodHandle" ∧ y.cls ≠ "java/lang/invoke/VarHandle") (eT : T.heap = h) (E : Exa Z h a C) (hM : MetFree l y (head1 [Jvm.Cond.code y bytes maxL ret] rm) (fun a U => a = as' ∧ Z.Warmed39 U.vm ∧ U.heap = h) (fun _ _ _ _ _ => True) (fun _ U o U' => ∃ v L, o = .returned v ∧ Q v U'.heap L ∧ ReturnedEndW U o U' L rm.cells rm.slots)) (hsize : ls.size = c.maxLocals) (argsL rest : List Value) (has : as' = (.ref a :: argsL).toArray) (hlen : ∀ sig, parseMethodDescriptor y.desc = some sig → argsL.length = sig.parameters.length) (hstack : st = argsL.reverse ++ .ref a :: rest) (hW : (rest.map fun v => v.category).sum ≤ W) (hf : rm.frames + 1 ≤ R.frames) (hl : W + (maxL + 11) + rm.locals ≤ R.locals) (hce : cells + rm.cells ≤ R.cells) (hsl : slots + rm.slots ≤ R.slots) (hp : pc + 3 = pc') (hd : decode c.code pc = .ok (.invokevirtual index, 3)) (k : ∀ T' v L, Stand p l e R (s.setVm T'.vm) m args below meth c T' (locs ++ L) (cells + rm.cells) (slots + rm.slots) → s.Since T'.vm T'.heap.size → Z.Warmed39 (s.setVm T'.vm).vm → (s.setVm T'.vm).vm.findClass own = some m.cls → Q v T'.heap L → Ends p.tables e below (T'.setTop (mkF m pc' ls (v.toList ++ rest))) P) : Ends p.tables e below (T.setTop (mkF m pc ls st)) P := by
  subst hp has hstack
  obtain ⟨cq, kq, qa, qb, qc⟩ := isOf hZ eT E
  obtain ⟨v, _, ⟨T', _, _, _⟩, -, X', S', g', ⟨L, hQ, e1, e2, e3⟩, s'⟩ := X.virtualBackS hx (y := y) (z := y) hown (mvT hZ w1) (mvT hZ w2) (notFace_of_selects (args := #[]) (mvT hZ w5)) (mvT hZ w5) (mvT hZ w6) hy (backOfS (W := W) hM hZ w4 w3 hf hl) qa qc (g := mkF m pc ls (argsL.reverse ++ .ref a :: rest)) rfl hsize (Steps.refl _) (argsL := argsL) (rest := rest) hlen rfl (by show 2 * 0 + _ ≤ _; omega) hd (fun _ _ => ⟨rfl, eT, hce, hsl⟩)
  dsimp only [Pt.U, Pt.locs, Pt.cells, Pt.slots] at X' S' g' e1 e2 e3 s' hQ
  subst e1 e2 e3
  obtain ⟨X2, S2, Z2, o2⟩ := rebS hS (show _ ≤ T.heap.size by rw [eT]; exact hk) X' S' g' hZ hown
  exact own_via (fun t_ k_ => s'.trans k_) (k T' v L X2 S2 Z2 o2 hQ)
theorem s_ldcS {vm0 : Vm} (X : Stand p l e R (s.setVm vm0) m args below meth c T locs cells slots) (hx : p.tables.exec = Jvm.exec) (hZ : Z.Warmed39 (s.setVm vm0).vm) {k0 : Nat} (hS : s.Since vm0 k0) (hk : k0 ≤ h.size) {own : String} {index : Nat} (hown : (s.setVm vm0).vm.findClass own = some m.cls) {text : String} (w : (Jvm.Cond.stringLink own index text).before a0 Z = true) (wS : ∀ a ∈ Bundle.stringAtoms, a.before a0 Z = true) (eT : T.heap = h) (hd : decode c.code pc = .ok (.ldc index, 2)) {n : Nat} (hn : 4 * text.toList.length ≤ n) (hbig : n ≤ 536870912) (hc : cells + 2 ≤ R.cells) (hl : slots + (n + 4) ≤ R.slots) (hp : pc + 2 = pc') (k : ∀ a T' h' k1, Stand p l e R (s.setVm T'.vm) m args below meth c T' locs (cells + 2) (slots + (n + 4)) → T'.heap = h' → Ext h h' → s.Since T'.vm k1 → k1 ≤ h'.size → Z.Warmed39 (s.setVm T'.vm).vm → (s.setVm T'.vm).vm.findClass own = some m.cls → Ends p.tables e below (T'.setTop (mkF m pc' ls (.ref a :: st))) P) : Ends p.tables e below (T.setTop (mkF m pc ls st)) P := by
  subst hp
  obtain ⟨a, T', h', k1, X', e', E', S', g', Z', o', s'⟩ := ldcS X hx hZ hown w wS eT hS hk (g := mkF m pc ls st) rfl hd hn hbig hc hl
  exact own_via s' (k a T' h' k1 X' e' E' S' g' Z' o')
theorem s_ldcSW {vm0 : Vm} (X : Stand p l e R (s.setVm vm0) m args below meth c T locs cells slots) (hx : p.tables.exec = Jvm.exec) (hZ : Z.Warmed39 (s.setVm vm0).vm) {k0 : Nat} (hS : s.Since vm0 k0) (hk : k0 ≤ h.size) {own : String} {index : Nat} (hown : (s.setVm vm0).vm.findClass own = some m.cls) {text : String} (w : (Jvm.Cond.stringLink own index text).before a0 Z = true) (wS : ∀ a ∈ Bundle.stringAtoms, a.before a0 Z = true) (eT : T.heap = h) (hd : decode c.code pc = .ok (.ldc_w index, 3)) {n : Nat} (hn : 4 * text.toList.length ≤ n) (hbig : n ≤ 536870912) (hc : cells + 2 ≤ R.cells) (hl : slots + (n + 4) ≤ R.slots) (hp : pc + 3 = pc') (k : ∀ a T' h' k1, Stand p l e R (s.setVm T'.vm) m args below meth c T' locs (cells + 2) (slots + (n + 4)) → T'.heap = h' → Ext h h' → s.Since T'.vm k1 → k1 ≤ h'.size → Z.Warmed39 (s.setVm T'.vm).vm → (s.setVm T'.vm).vm.findClass own = some m.cls → Ends p.tables e below (T'.setTop (mkF m pc' ls (.ref a :: st))) P) : Ends p.tables e below (T.setTop (mkF m pc ls st)) P := by
  subst hp
  obtain ⟨a, T', h', k1, X', e', E', S', g', Z', o', s'⟩ := ldcSW X hx hZ hown w wS eT hS hk (g := mkF m pc ls st) rfl hd hn hbig hc hl
  exact own_via s' (k a T' h' k1 X' e' E' S' g' Z' o')
end OwnLaws

theorem own_byteAt {Z : State} {h : Heap} {a : Addr} {k : ClassId} {z : Int32} {vs : List Value} {d : Value} (F : Arv Z h a k .byte z vs d) {j : Int32} (h0 : ¬ j < 0) (h1 : j < z) : ∃ x : Int32, vs.getD j.toNatClampNeg d = .int x := by
  obtain ⟨c, A, q, S, M, H, G⟩ := F
  have hin := inb_of S ⟨h0, h1⟩
  have g := G j.toNatClampNeg (Nat.lt_of_not_le fun y => hin (Or.inr y))
  cases hv : vs.getD j.toNatClampNeg d with
  | int x => exact ⟨x, rfl⟩
  | _ => rw [hv] at g; simp [fits] at g
theorem own_left {z p n k : Int32} (hz0 : 0 ≤ z.toInt) (hz : z.toInt ≤ 15) (hk : k.toInt ≤ z.toInt) (h : 0 ≤ p.toInt ∧ p.toInt + n.toInt ≤ k.toInt) : ¬ (z - p) < n := by
  rw [Int32.lt_iff_toInt_lt]
  have := c_isub z p
  have := rng32 (z - p)
  omega
theorem own_lt {x y : Int32} (h : x.toInt < y.toInt) : x < y := Int32.lt_iff_toInt_lt.mpr h
theorem own_nlt {x y : Int32} (h : y.toInt ≤ x.toInt) : ¬ x < y := by
  rw [Int32.lt_iff_toInt_lt]
  omega
theorem own_add {x y : Int32} (h1 : -2147483648 ≤ x.toInt + y.toInt) (h2 : x.toInt + y.toInt < 2147483648) : (x + y).toInt = x.toInt + y.toInt := by
  have := c_iadd x y
  have := rng32 (x + y)
  omega
theorem own_sub {x y : Int32} (h1 : -2147483648 ≤ x.toInt - y.toInt) (h2 : x.toInt - y.toInt < 2147483648) : (x - y).toInt = x.toInt - y.toInt := by
  have := c_isub x y
  have := rng32 (x - y)
  omega
theorem own_d1_0 : decode prog_89_method_1_code 0 = .ok (.aload_n 0, 1) := by decide +kernel
theorem own_d1_1 : decode prog_89_method_1_code 1 = .ok (.invokespecial 3, 3) := by decide +kernel
theorem own_d1_4 : decode prog_89_method_1_code 4 = .ok (.aload_n 0, 1) := by decide +kernel
theorem own_d1_5 : decode prog_89_method_1_code 5 = .ok (.aload_n 1, 1) := by decide +kernel
theorem own_d1_6 : decode prog_89_method_1_code 6 = .ok (.putfield 9, 3) := by decide +kernel
theorem own_d1_9 : decode prog_89_method_1_code 9 = .ok (.return_, 1) := by decide +kernel
theorem own_pn0 : plainName "com/example/prudent_till/prudenttill/store/StoredFields$Reader" = true := by first | (simp [plainName, overriddenIn]; done) | decide +kernel
theorem own_rm1_ef (m : MethodId) (a : Addr) (b : Addr) : entryFrame m #[(.ref a), (.ref b)] 2 = mkF m 0 #[.val (.ref a), .val (.ref b)] [] := by first | (simp [entryFrame, mkF, argsToLocals, Value.category]; done) | rfl
def own_rm1_Q (Z : State) (a : Addr) (b : Addr) (h0 : Heap) (n0 : Nat) (v : Option Value) (h : Heap) (L : List Loc) : Prop := v = none ∧ Fr n0 L ∧ Keep h0 h [a] ∧ Fld Z h a "com/example/prudent_till/prudenttill/store/StoredFields$Reader" "bytes" "[B" (.ref b) ∧ Fld Z h a "com/example/prudent_till/prudenttill/store/StoredFields$Reader" "position" "I" (.int (0 : Int32))
set_option maxRecDepth 65536 in
set_option maxHeartbeats 40000000 in
theorem own_rm1 (l : Launch) (Z : State) (a0 : Array Value) (hw : ∀ d ∈ tables_1, d.before a0 Z = true) (ws : List Jvm.Cond) (a : Addr) (b : Addr) (h0 : Heap) (n0 : Nat) (Z0 : n0 ≤ h0.size) (F_bytes : Fld Z h0 a "com/example/prudent_till/prudenttill/store/StoredFields$Reader" "bytes" "[B" .null) (F_position : Fld Z h0 a "com/example/prudent_till/prudenttill/store/StoredFields$Reader" "position" "I" (.int (0 : Int32))) (E_a : Exa Z h0 a "com/example/prudent_till/prudenttill/store/StoredFields$Reader") (g_a : n0 ≤ a) :
    MetFree l (⟨"com/example/prudent_till/prudenttill/store/StoredFields$Reader", "<init>", "([B)V"⟩ : MethodName) (head1 (Jvm.Cond.code (⟨"com/example/prudent_till/prudenttill/store/StoredFields$Reader", "<init>", "([B)V"⟩ : MethodName) prog_89_method_1_code 2 none :: ws) ({ frames := 1, cells := 0, slots := 0, locals := 12 } : Room)) (fun as_ U => as_ = #[(.ref a), (.ref b)] ∧ Z.Warmed39 U.vm ∧ U.heap = h0) (fun _ _ _ _ _ => True) (fun _ U o U' => ∃ v L, o = .returned v ∧ own_rm1_Q Z a b h0 n0 v U'.heap L ∧ FrameEnd U o U' L ({ frames := 1, cells := 0, slots := 0, locals := 12 } : Room).cells ({ frames := 1, cells := 0, slots := 0, locals := 12 } : Room).slots) := by
  refine MetFree.of_bodySF (plainFor_of_name own_pn0) hisR ?_
  intro p e s m args below meth c s₁ Bd hml0 hP hK
  obtain ⟨rfl, hZ, hh⟩ := hP
  have hx := Bd.exec
  have hby := Bd.bytes
  have hml : c.maxLocals = 2 := hml0
  have hown : s.vm.findClass "com/example/prudent_till/prudenttill/store/StoredFields$Reader" = some m.cls := findClass_of_methodNamed Bd.named
  have hnm := (name_of_methodNamed Bd.named Bd.method).1
  have X0 : Stand p l e ({ frames := 1, cells := 0, slots := 0, locals := 12 } : Room) s m #[(.ref a), (.ref b)] below meth c s₁ [] 0 0 := Stand.of_body Bd
  have e0 : s₁.heap = h0 := by rw [← hh, Bd.state]; rfl
  have N0 := Fr.nil n0
  refine own_begin (own_rm1_ef m a b) ?_
  show Ends p.tables e below (s₁.setTop (mkF m 0 #[.val (.ref a), .val (.ref b)] [])) _
  have Kr0 : Keep h0 h0 [a] := Keep.refl h0 _
  refine s_aloadN (pc' := 1) X0.here hx (hb hby own_d1_0) rfl rfl rfl ?_
  refine s_initO (pc' := 4) (W := 0) X0 hx hZ hown (hw _ (List.mem_of_getElem? (i := 8) rfl)) (hw _ (List.mem_of_getElem? (i := 9) rfl)) (hw _ (List.mem_of_getElem? (i := 10) rfl)) e0 (by rw [hml]; rfl) (hb hby own_d1_1) (by decide) (Nat.le_of_eq rfl) (by decide) rfl fun T1 X1 e1 => ?_
  refine s_aloadN (pc' := 5) X1.here hx (hb hby own_d1_4) rfl rfl rfl ?_
  refine s_aloadN (pc' := 6) X1.here hx (hb hby own_d1_5) rfl rfl rfl ?_
  refine s_putF (pc' := 9) (ty := (.array .byte)) X1 hx hZ hown (host := "") (Or.inl (hw _ (List.mem_of_getElem? (i := 11) rfl))) Via.refl e1 F_bytes E_a (Or.inr ⟨(hw _ (List.mem_of_getElem? (i := 12) rfl)), rfl, hnm⟩) (hw _ (List.mem_of_getElem? (i := 3) rfl)) (by decide) rfl rfl (hb hby own_d1_6) rfl fun T2 hp2 X2 e2 W2 => ?_
  have N2 := Fr.snoc X2 N0 g_a
  have f3 := F_bytes.same W2
  have f4 := F_position.other W2 (Or.inr (slot_ne (Or.inl (hw _ (List.mem_of_getElem? (i := 19) rfl))) (Or.inr (hw _ (List.mem_of_getElem? (i := 12) rfl))) (by decide) (t := .int) (t' := (.array .byte)) (by decide) (by decide)))
  have f5 := E_a.wr W2
  have Z6 : n0 ≤ hp2.size := Nat.le_trans Z0 (Keep.of_wr W2).1
  have K7 : Keep h0 hp2 [a] := Kr0.wr W2 (Or.inl (List.mem_of_getElem? (i := 0) rfl))
  obtain ⟨fs, hr, hrun, hended, hW, hsame⟩ := X2.leave (v := none) (fun _ => rfl)
  refine ⟨_, _, X2.returnOut hx Bd.returns (hb hby own_d1_9) hr, hrun, hended, _, _, rfl, ?_, ⟨_, rfl⟩, hW, hsame.mono (by decide) (by decide)⟩
  show own_rm1_Q Z a b h0 n0 _ T2.heap _
  rw [e2]
  exact ⟨rfl, N2, K7, f3, f4⟩
theorem own_d3_0 : decode prog_89_method_10_code 0 = .ok (.aload_n 0, 1) := by decide +kernel
theorem own_d3_1 : decode prog_89_method_10_code 1 = .ok (.getfield 19, 3) := by decide +kernel
theorem own_d3_4 : decode prog_89_method_10_code 4 = .ok (.aload_n 0, 1) := by decide +kernel
theorem own_d3_5 : decode prog_89_method_10_code 5 = .ok (.getfield 9, 3) := by decide +kernel
theorem own_d3_8 : decode prog_89_method_10_code 8 = .ok (.arraylength, 1) := by decide +kernel
theorem own_d3_9 : decode prog_89_method_10_code 9 = .ok (.if_icmp .ge 7, 3) := by decide +kernel
theorem own_d3_12 : decode prog_89_method_10_code 12 = .ok (.iconst 1, 1) := by decide +kernel
theorem own_d3_13 : decode prog_89_method_10_code 13 = .ok (.goto 4, 3) := by decide +kernel
theorem own_d3_17 : decode prog_89_method_10_code 17 = .ok (.ireturn, 1) := by decide +kernel
theorem own_d3_16 : decode prog_89_method_10_code 16 = .ok (.iconst 0, 1) := by decide +kernel
theorem own_rm3_ef (m : MethodId) (a : Addr) (b : Addr) (k : ClassId) (z : Int32) (vs : List Value) (pos : Int32) : entryFrame m #[(.ref a)] 1 = mkF m 0 #[.val (.ref a)] [] := by first | (simp [entryFrame, mkF, argsToLocals, Value.category]; done) | rfl
def own_rm3_Q (Z : State) (a : Addr) (b : Addr) (k : ClassId) (z : Int32) (vs : List Value) (pos : Int32) (h0 : Heap) (n0 : Nat) (v : Option Value) (h : Heap) (L : List Loc) : Prop := v = some (.int (if pos < z then 1 else 0)) ∧ Fr n0 L ∧ h = h0
set_option maxRecDepth 65536 in
set_option maxHeartbeats 40000000 in
theorem own_rm3 (l : Launch) (Z : State) (a0 : Array Value) (hw : ∀ d ∈ tables_1, d.before a0 Z = true) (ws : List Jvm.Cond) (a : Addr) (b : Addr) (k : ClassId) (z : Int32) (vs : List Value) (pos : Int32) (h0 : Heap) (n0 : Nat) (Z0 : n0 ≤ h0.size) (F_bytes : Fld Z h0 a "com/example/prudent_till/prudenttill/store/StoredFields$Reader" "bytes" "[B" (.ref b)) (F_position : Fld Z h0 a "com/example/prudent_till/prudenttill/store/StoredFields$Reader" "position" "I" (.int pos)) (E_a : Exa Z h0 a "com/example/prudent_till/prudenttill/store/StoredFields$Reader") (V_b : Arv Z h0 b k .byte z vs (.int (0 : Int32))) :
    MetFree l (⟨"com/example/prudent_till/prudenttill/store/StoredFields$Reader", "hasRemaining", "()Z"⟩ : MethodName) (head1 (Jvm.Cond.code (⟨"com/example/prudent_till/prudenttill/store/StoredFields$Reader", "hasRemaining", "()Z"⟩ : MethodName) prog_89_method_10_code 1 (some .boolean) :: ws) ({ frames := 0, cells := 0, slots := 0, locals := 0 } : Room)) (fun as_ U => as_ = #[(.ref a)] ∧ Z.Warmed39 U.vm ∧ U.heap = h0) (fun _ _ _ _ _ => True) (fun _ U o U' => ∃ v L, o = .returned v ∧ own_rm3_Q Z a b k z vs pos h0 n0 v U'.heap L ∧ FrameEnd U o U' L ({ frames := 0, cells := 0, slots := 0, locals := 0 } : Room).cells ({ frames := 0, cells := 0, slots := 0, locals := 0 } : Room).slots) := by
  refine MetFree.of_bodySF (plainFor_of_name own_pn0) hisR ?_
  intro p e s m args below meth c s₁ Bd hml0 hP hK
  obtain ⟨rfl, hZ, hh⟩ := hP
  have hx := Bd.exec
  have hby := Bd.bytes
  have hml : c.maxLocals = 1 := hml0
  have hown : s.vm.findClass "com/example/prudent_till/prudenttill/store/StoredFields$Reader" = some m.cls := findClass_of_methodNamed Bd.named
  have hnm := (name_of_methodNamed Bd.named Bd.method).1
  have X0 : Stand p l e ({ frames := 0, cells := 0, slots := 0, locals := 0 } : Room) s m #[(.ref a)] below meth c s₁ [] 0 0 := Stand.of_body Bd
  have e0 : s₁.heap = h0 := by rw [← hh, Bd.state]; rfl
  have N0 := Fr.nil n0
  refine own_begin (own_rm3_ef m a b k z vs pos) ?_
  show Ends p.tables e below (s₁.setTop (mkF m 0 #[.val (.ref a)] [])) _
  refine s_aloadN (pc' := 1) X0.here hx (hb hby own_d3_0) rfl rfl rfl ?_
  refine s_getF (pc' := 4) X0 hx hZ hown (host := "") (Or.inl (hw _ (List.mem_of_getElem? (i := 18) rfl))) Via.refl e0 F_position (hb hby own_d3_1) rfl fun T1 X1 e1 => ?_
  refine s_aloadN (pc' := 5) X1.here hx (hb hby own_d3_4) rfl rfl rfl ?_
  refine s_getF (pc' := 8) X1 hx hZ hown (host := "") (Or.inl (hw _ (List.mem_of_getElem? (i := 11) rfl))) Via.refl e1 F_bytes (hb hby own_d3_5) rfl fun T2 X2 e2 => ?_
  refine s_arraylength (pc' := 9) X2 hx hZ e2 V_b (hb hby own_d3_8) rfl ?_
  by_cases h1 : pos < z
  · refine s_icmpNo (pc' := 12) X2.here hx (hb hby own_d3_9) (tlt h1).2.1 rfl ?_
    refine s_iconst (pc' := 13) X2.here hx (v := (1 : Int32)) (hb hby own_d3_12) rfl rfl ?_
    refine s_goto (pc' := 17) X2.here hx (hb hby own_d3_13) (by decide) (by decide) ?_
    obtain ⟨fs, hr, hrun, hended, hW, hsame⟩ := X2.leave (v := some (.int (1 : Int32))) (fun h => by rw [Bd.returns] at h; cases h)
    refine ⟨_, _, retN X2 hx (t := .boolean) Bd.returns (by simp) (hb hby own_d3_17) hr, hrun, hended, _, _, rfl, ?_, ⟨_, rfl⟩, hW, hsame.mono (by decide) (by decide)⟩
    show own_rm3_Q Z a b k z vs pos h0 n0 _ T2.heap _
    rw [e2]
    exact ⟨by rw [if_pos h1], N0, rfl⟩
  · refine s_icmpYes (pc' := 16) X2.here hx (hb hby own_d3_9) (flt h1).2.1 (by decide) (by decide) ?_
    refine s_iconst (pc' := 17) X2.here hx (v := (0 : Int32)) (hb hby own_d3_16) rfl rfl ?_
    obtain ⟨fs, hr, hrun, hended, hW, hsame⟩ := X2.leave (v := some (.int (0 : Int32))) (fun h => by rw [Bd.returns] at h; cases h)
    refine ⟨_, _, retN X2 hx (t := .boolean) Bd.returns (by simp) (hb hby own_d3_17) hr, hrun, hended, _, _, rfl, ?_, ⟨_, rfl⟩, hW, hsame.mono (by decide) (by decide)⟩
    show own_rm3_Q Z a b k z vs pos h0 n0 _ T2.heap _
    rw [e2]
    exact ⟨by rw [if_neg h1], N0, rfl⟩
theorem own_d6_0 : decode prog_89_method_14_code 0 = .ok (.aload_n 0, 1) := by decide +kernel
theorem own_d6_1 : decode prog_89_method_14_code 1 = .ok (.getfield 9, 3) := by decide +kernel
theorem own_d6_4 : decode prog_89_method_14_code 4 = .ok (.arraylength, 1) := by decide +kernel
theorem own_d6_5 : decode prog_89_method_14_code 5 = .ok (.aload_n 0, 1) := by decide +kernel
theorem own_d6_6 : decode prog_89_method_14_code 6 = .ok (.getfield 19, 3) := by decide +kernel
theorem own_d6_9 : decode prog_89_method_14_code 9 = .ok (.isub, 1) := by decide +kernel
theorem own_d6_10 : decode prog_89_method_14_code 10 = .ok (.iload_n 1, 1) := by decide +kernel
theorem own_d6_11 : decode prog_89_method_14_code 11 = .ok (.if_icmp .ge 13, 3) := by decide +kernel
theorem own_d6_24 : decode prog_89_method_14_code 24 = .ok (.aload_n 0, 1) := by decide +kernel
theorem own_d6_25 : decode prog_89_method_14_code 25 = .ok (.dup, 1) := by decide +kernel
theorem own_d6_26 : decode prog_89_method_14_code 26 = .ok (.getfield 19, 3) := by decide +kernel
theorem own_d6_29 : decode prog_89_method_14_code 29 = .ok (.iload_n 1, 1) := by decide +kernel
theorem own_d6_30 : decode prog_89_method_14_code 30 = .ok (.iadd, 1) := by decide +kernel
theorem own_d6_31 : decode prog_89_method_14_code 31 = .ok (.putfield 19, 3) := by decide +kernel
theorem own_d6_34 : decode prog_89_method_14_code 34 = .ok (.return_, 1) := by decide +kernel
theorem own_rm6_ef (m : MethodId) (a : Addr) (n : Int32) (b : Addr) (k : ClassId) (z : Int32) (vs : List Value) (pos : Int32) : entryFrame m #[(.ref a), (.int n)] 2 = mkF m 0 #[.val (.ref a), .val (.int n)] [] := by first | (simp [entryFrame, mkF, argsToLocals, Value.category]; done) | rfl
def own_rm6_Q (Z : State) (a : Addr) (n : Int32) (b : Addr) (k : ClassId) (z : Int32) (vs : List Value) (pos : Int32) (h0 : Heap) (n0 : Nat) (v : Option Value) (h : Heap) (L : List Loc) : Prop := v = none ∧ Fr n0 L ∧ Keep h0 h [a] ∧ Fld Z h a "com/example/prudent_till/prudenttill/store/StoredFields$Reader" "bytes" "[B" (.ref b) ∧ Fld Z h a "com/example/prudent_till/prudenttill/store/StoredFields$Reader" "position" "I" (.int (pos + n))
set_option maxRecDepth 65536 in
set_option maxHeartbeats 40000000 in
theorem own_rm6 (l : Launch) (Z : State) (a0 : Array Value) (hw : ∀ d ∈ tables_1, d.before a0 Z = true) (ws : List Jvm.Cond) (a : Addr) (n : Int32) (b : Addr) (k : ClassId) (z : Int32) (vs : List Value) (pos : Int32) (h0 : Heap) (n0 : Nat) (Z0 : n0 ≤ h0.size) (F_bytes : Fld Z h0 a "com/example/prudent_till/prudenttill/store/StoredFields$Reader" "bytes" "[B" (.ref b)) (F_position : Fld Z h0 a "com/example/prudent_till/prudenttill/store/StoredFields$Reader" "position" "I" (.int pos)) (E_a : Exa Z h0 a "com/example/prudent_till/prudenttill/store/StoredFields$Reader") (V_b : Arv Z h0 b k .byte z vs (.int (0 : Int32))) (hleft : ¬ (z - pos) < n) (g_a : n0 ≤ a) (ne_ba : b ≠ a) :
    MetFree l (⟨"com/example/prudent_till/prudenttill/store/StoredFields$Reader", "take", "(I)V"⟩ : MethodName) (head1 (Jvm.Cond.code (⟨"com/example/prudent_till/prudenttill/store/StoredFields$Reader", "take", "(I)V"⟩ : MethodName) prog_89_method_14_code 2 none :: ws) ({ frames := 0, cells := 0, slots := 0, locals := 0 } : Room)) (fun as_ U => as_ = #[(.ref a), (.int n)] ∧ Z.Warmed39 U.vm ∧ U.heap = h0) (fun _ _ _ _ _ => True) (fun _ U o U' => ∃ v L, o = .returned v ∧ own_rm6_Q Z a n b k z vs pos h0 n0 v U'.heap L ∧ FrameEnd U o U' L ({ frames := 0, cells := 0, slots := 0, locals := 0 } : Room).cells ({ frames := 0, cells := 0, slots := 0, locals := 0 } : Room).slots) := by
  refine MetFree.of_bodySF (plainFor_of_name own_pn0) hisR ?_
  intro p e s m args below meth c s₁ Bd hml0 hP hK
  obtain ⟨rfl, hZ, hh⟩ := hP
  have hx := Bd.exec
  have hby := Bd.bytes
  have hml : c.maxLocals = 2 := hml0
  have hown : s.vm.findClass "com/example/prudent_till/prudenttill/store/StoredFields$Reader" = some m.cls := findClass_of_methodNamed Bd.named
  have hnm := (name_of_methodNamed Bd.named Bd.method).1
  have X0 : Stand p l e ({ frames := 0, cells := 0, slots := 0, locals := 0 } : Room) s m #[(.ref a), (.int n)] below meth c s₁ [] 0 0 := Stand.of_body Bd
  have e0 : s₁.heap = h0 := by rw [← hh, Bd.state]; rfl
  have N0 := Fr.nil n0
  refine own_begin (own_rm6_ef m a n b k z vs pos) ?_
  show Ends p.tables e below (s₁.setTop (mkF m 0 #[.val (.ref a), .val (.int n)] [])) _
  have Kr0 : Keep h0 h0 [a] := Keep.refl h0 _
  refine s_aloadN (pc' := 1) X0.here hx (hb hby own_d6_0) rfl rfl rfl ?_
  refine s_getF (pc' := 4) X0 hx hZ hown (host := "") (Or.inl (hw _ (List.mem_of_getElem? (i := 11) rfl))) Via.refl e0 F_bytes (hb hby own_d6_1) rfl fun T1 X1 e1 => ?_
  refine s_arraylength (pc' := 5) X1 hx hZ e1 V_b (hb hby own_d6_4) rfl ?_
  refine s_aloadN (pc' := 6) X1.here hx (hb hby own_d6_5) rfl rfl rfl ?_
  refine s_getF (pc' := 9) X1 hx hZ hown (host := "") (Or.inl (hw _ (List.mem_of_getElem? (i := 18) rfl))) Via.refl e1 F_position (hb hby own_d6_6) rfl fun T2 X2 e2 => ?_
  refine s_isub (pc' := 10) X2.here hx (hb hby own_d6_9) rfl ?_
  refine s_iloadN (pc' := 11) X2.here hx (hb hby own_d6_10) rfl rfl ?_
  have hk3 : ¬ ((z - pos) < n) := hleft
  refine s_icmpYes (pc' := 24) X2.here hx (hb hby own_d6_11) (flt hk3).2.1 (by decide) (by decide) ?_
  refine s_aloadN (pc' := 25) X2.here hx (hb hby own_d6_24) rfl rfl rfl ?_
  refine s_dup (pc' := 26) X2.here hx (hb hby own_d6_25) rfl rfl ?_
  refine s_getF (pc' := 29) X2 hx hZ hown (host := "") (Or.inl (hw _ (List.mem_of_getElem? (i := 18) rfl))) Via.refl e2 F_position (hb hby own_d6_26) rfl fun T4 X4 e4 => ?_
  refine s_iloadN (pc' := 30) X4.here hx (hb hby own_d6_29) rfl rfl ?_
  refine s_iadd (pc' := 31) X4.here hx (hb hby own_d6_30) rfl ?_
  refine s_putF (pc' := 34) (ty := .int) X4 hx hZ hown (host := "") (Or.inl (hw _ (List.mem_of_getElem? (i := 18) rfl))) Via.refl e4 F_position E_a (Or.inl (hw _ (List.mem_of_getElem? (i := 19) rfl))) (hw _ (List.mem_of_getElem? (i := 3) rfl)) (by decide) rfl rfl (hb hby own_d6_31) rfl fun T5 hp5 X5 e5 W5 => ?_
  have N5 := Fr.snoc X5 N0 g_a
  have f6 := F_bytes.other W5 (Or.inr (slot_ne (Or.inr (hw _ (List.mem_of_getElem? (i := 12) rfl))) (Or.inl (hw _ (List.mem_of_getElem? (i := 19) rfl))) (by decide) (t := (.array .byte)) (t' := .int) (by decide) (by decide)))
  have f7 := F_position.same W5
  have f8 := E_a.wr W5
  have f9 := V_b.other W5 ne_ba
  have Z10 : n0 ≤ hp5.size := Nat.le_trans Z0 (Keep.of_wr W5).1
  have K11 : Keep h0 hp5 [a] := Kr0.wr W5 (Or.inl (List.mem_of_getElem? (i := 0) rfl))
  obtain ⟨fs, hr, hrun, hended, hW, hsame⟩ := X5.leave (v := none) (fun _ => rfl)
  refine ⟨_, _, X5.returnOut hx Bd.returns (hb hby own_d6_34) hr, hrun, hended, _, _, rfl, ?_, ⟨_, rfl⟩, hW, hsame.mono (by decide) (by decide)⟩
  show own_rm6_Q Z a n b k z vs pos h0 n0 _ T5.heap _
  rw [e5]
  exact ⟨rfl, N5, K11, f6, f7⟩
theorem own_d7_0 : decode prog_89_method_2_code 0 = .ok (.aload_n 0, 1) := by decide +kernel
theorem own_d7_1 : decode prog_89_method_2_code 1 = .ok (.iconst 1, 1) := by decide +kernel
theorem own_d7_2 : decode prog_89_method_2_code 2 = .ok (.invokevirtual 15, 3) := by decide +kernel
theorem own_pd0 : parseMethodDescriptor "(I)V" = some ⟨[.int], none⟩ := by decide +kernel
theorem own_d7_5 : decode prog_89_method_2_code 5 = .ok (.aload_n 0, 1) := by decide +kernel
theorem own_d7_6 : decode prog_89_method_2_code 6 = .ok (.getfield 9, 3) := by decide +kernel
theorem own_d7_9 : decode prog_89_method_2_code 9 = .ok (.aload_n 0, 1) := by decide +kernel
theorem own_d7_10 : decode prog_89_method_2_code 10 = .ok (.getfield 19, 3) := by decide +kernel
theorem own_d7_13 : decode prog_89_method_2_code 13 = .ok (.iconst 1, 1) := by decide +kernel
theorem own_d7_14 : decode prog_89_method_2_code 14 = .ok (.isub, 1) := by decide +kernel
theorem own_d7_15 : decode prog_89_method_2_code 15 = .ok (.baload, 1) := by decide +kernel
theorem own_d7_16 : decode prog_89_method_2_code 16 = .ok (.ireturn, 1) := by decide +kernel
theorem own_rm7_ef (m : MethodId) (a : Addr) (b : Addr) (k : ClassId) (z : Int32) (vs : List Value) (pos : Int32) : entryFrame m #[(.ref a)] 1 = mkF m 0 #[.val (.ref a)] [] := by first | (simp [entryFrame, mkF, argsToLocals, Value.category]; done) | rfl
def own_rm7_Q (Z : State) (a : Addr) (b : Addr) (k : ClassId) (z : Int32) (vs : List Value) (pos : Int32) (h0 : Heap) (n0 : Nat) (v : Option Value) (h : Heap) (L : List Loc) : Prop := ∃ r, v = some (.int r) ∧ Fr n0 L ∧ Keep h0 h [a] ∧ Fld Z h a "com/example/prudent_till/prudenttill/store/StoredFields$Reader" "bytes" "[B" (.ref b) ∧ Fld Z h a "com/example/prudent_till/prudenttill/store/StoredFields$Reader" "position" "I" (.int (pos + (1 : Int32)))
set_option maxRecDepth 65536 in
set_option maxHeartbeats 40000000 in
theorem own_rm7 (l : Launch) (Z : State) (a0 : Array Value) (hw : ∀ d ∈ tables_1, d.before a0 Z = true) (ws : List Jvm.Cond) (a : Addr) (b : Addr) (k : ClassId) (z : Int32) (vs : List Value) (pos : Int32) (h0 : Heap) (n0 : Nat) (Z0 : n0 ≤ h0.size) (F_bytes : Fld Z h0 a "com/example/prudent_till/prudenttill/store/StoredFields$Reader" "bytes" "[B" (.ref b)) (F_position : Fld Z h0 a "com/example/prudent_till/prudenttill/store/StoredFields$Reader" "position" "I" (.int pos)) (E_a : Exa Z h0 a "com/example/prudent_till/prudenttill/store/StoredFields$Reader") (V_b : Arv Z h0 b k .byte z vs (.int (0 : Int32))) (hp0 : 0 ≤ pos.toInt) (hz15 : z.toInt ≤ 15) (hpz : pos.toInt + 1 ≤ z.toInt) (g_a : n0 ≤ a) (ne_ba : b ≠ a) :
    MetFree l (⟨"com/example/prudent_till/prudenttill/store/StoredFields$Reader", "getByte", "()B"⟩ : MethodName) (head1 (Jvm.Cond.code (⟨"com/example/prudent_till/prudenttill/store/StoredFields$Reader", "getByte", "()B"⟩ : MethodName) prog_89_method_2_code 1 (some .byte) :: ws) ({ frames := 1, cells := 0, slots := 0, locals := 13 } : Room)) (fun as_ U => as_ = #[(.ref a)] ∧ Z.Warmed39 U.vm ∧ U.heap = h0) (fun _ _ _ _ _ => True) (fun _ U o U' => ∃ v L, o = .returned v ∧ own_rm7_Q Z a b k z vs pos h0 n0 v U'.heap L ∧ FrameEnd U o U' L ({ frames := 1, cells := 0, slots := 0, locals := 13 } : Room).cells ({ frames := 1, cells := 0, slots := 0, locals := 13 } : Room).slots) := by
  refine MetFree.of_bodySF (plainFor_of_name own_pn0) hisR ?_
  intro p e s m args below meth c s₁ Bd hml0 hP hK
  obtain ⟨rfl, hZ, hh⟩ := hP
  have hx := Bd.exec
  have hby := Bd.bytes
  have hml : c.maxLocals = 1 := hml0
  have hown : s.vm.findClass "com/example/prudent_till/prudenttill/store/StoredFields$Reader" = some m.cls := findClass_of_methodNamed Bd.named
  have hnm := (name_of_methodNamed Bd.named Bd.method).1
  have X0 : Stand p l e ({ frames := 1, cells := 0, slots := 0, locals := 13 } : Room) s m #[(.ref a)] below meth c s₁ [] 0 0 := Stand.of_body Bd
  have e0 : s₁.heap = h0 := by rw [← hh, Bd.state]; rfl
  have N0 := Fr.nil n0
  refine own_begin (own_rm7_ef m a b k z vs pos) ?_
  show Ends p.tables e below (s₁.setTop (mkF m 0 #[.val (.ref a)] [])) _
  have Kr0 : Keep h0 h0 [a] := Keep.refl h0 _
  have one : (1 : Int32).toInt = 1 := by decide
  have zero : (0 : Int32).toInt = 0 := by decide
  have hleft : ¬ (z - pos) < (1 : Int32) := own_left (by omega) hz15 (Int.le_refl _) ⟨hp0, by omega⟩
  refine s_aloadN (pc' := 1) X0.here hx (hb hby own_d7_0) rfl rfl rfl ?_
  refine s_iconst (pc' := 2) X0.here hx (v := (1 : Int32)) (hb hby own_d7_1) rfl rfl ?_
  refine s_callP (y := (⟨"com/example/prudent_till/prudenttill/store/StoredFields$Reader", "take", "(I)V"⟩ : MethodName)) (zz := (⟨"com/example/prudent_till/prudenttill/store/StoredFields$Reader", "hasRemaining", "()Z"⟩ : MethodName)) (pc' := 5) (W := 0) X0 hx hZ  rfl hown (hw _ (List.mem_of_getElem? (i := 29) rfl)) (hw _ (List.mem_of_getElem? (i := 31) rfl)) (hw _ (List.mem_of_getElem? (i := 4) rfl)) (hw _ (List.mem_of_getElem? (i := 32) rfl)) (hw _ (List.mem_of_getElem? (i := 16) rfl)) (hw _ (List.mem_of_getElem? (i := 30) rfl)) (by decide) e0 E_a (own_rm6 l Z a0 hw [] a (1 : Int32) b k z vs pos h0 n0 Z0 F_bytes F_position E_a V_b hleft g_a ne_ba) (by rw [hml]; rfl) [(.int (1 : Int32))] [] rfl (lenOf own_pd0 rfl) rfl (Nat.le_of_eq rfl) (by decide) (by decide) (by decide) (by decide) rfl (hb hby own_d7_2) fun T1 v1 Lc1 X1 hQ1 => ?_
  obtain ⟨rfl, Nq1, Kq1, Fb, Fp⟩ := hQ1
  have N1 := Fr.app N0 Nq1
  have f2 := E_a.keep Kq1
  have f3 := V_b.keep Kq1 (ninS ne_ba nin0)
  have Z4 : n0 ≤ T1.heap.size := Nat.le_trans Z0 Kq1.1
  have K5 : Keep h0 T1.heap [a] := Kr0.trans Kq1 (allS (Or.inl (List.mem_of_getElem? (i := 0) rfl)) all0)
  show Ends p.tables e below (T1.setTop (mkF m 5 #[.val (.ref a)] [])) _
  refine s_aloadN (pc' := 6) X1.here hx (hb hby own_d7_5) rfl rfl rfl ?_
  refine s_getF (pc' := 9) X1 hx hZ hown (host := "") (Or.inl (hw _ (List.mem_of_getElem? (i := 11) rfl))) Via.refl rfl Fb (hb hby own_d7_6) rfl fun T6 X6 e6 => ?_
  refine s_aloadN (pc' := 10) X6.here hx (hb hby own_d7_9) rfl rfl rfl ?_
  refine s_getF (pc' := 13) X6 hx hZ hown (host := "") (Or.inl (hw _ (List.mem_of_getElem? (i := 18) rfl))) Via.refl e6 Fp (hb hby own_d7_10) rfl fun T7 X7 e7 => ?_
  refine s_iconst (pc' := 14) X7.here hx (v := (1 : Int32)) (hb hby own_d7_13) rfl rfl ?_
  refine s_isub (pc' := 15) X7.here hx (hb hby own_d7_14) rfl ?_
  have q1 : (pos + (1 : Int32)).toInt = pos.toInt + (1 : Int32).toInt := own_add (by omega) (by omega)
  have q2 : ((pos + (1 : Int32)) - (1 : Int32)).toInt = (pos + (1 : Int32)).toInt - (1 : Int32).toInt := own_sub (by omega) (by omega)
  have i0 : ¬ ((pos + (1 : Int32)) - (1 : Int32)) < 0 := own_nlt (by omega)
  have i1 : ((pos + (1 : Int32)) - (1 : Int32)) < z := own_lt (by omega)
  obtain ⟨x, hx0⟩ := own_byteAt f3 i0 i1
  refine s_baload (pc' := 16) (v := (.int x)) X7 hx hZ e7 f3 ⟨i0, i1⟩ hx0 (hb hby own_d7_15) rfl ?_
  obtain ⟨fs, hr, hrun, hended, hW, hsame⟩ := X7.leave (v := some (.int (nar .byte x))) (fun h => by rw [Bd.returns] at h; cases h)
  refine ⟨_, _, retN X7 hx (t := .byte) Bd.returns (by simp) (hb hby own_d7_16) hr, hrun, hended, _, _, rfl, ?_, ⟨_, rfl⟩, hW, hsame.mono (by decide) (by decide)⟩
  show own_rm7_Q Z a b k z vs pos h0 n0 _ T7.heap _
  rw [e7]
  exact ⟨nar .byte x, rfl, N1, K5, Fb, Fp⟩
theorem own_d5_0 : decode prog_89_method_12_code 0 = .ok (.aload_n 0, 1) := by decide +kernel
theorem own_d5_1 : decode prog_89_method_12_code 1 = .ok (.iload_n 1, 1) := by decide +kernel
theorem own_d5_2 : decode prog_89_method_12_code 2 = .ok (.invokevirtual 15, 3) := by decide +kernel
theorem own_d5_5 : decode prog_89_method_12_code 5 = .ok (.lconst 0, 1) := by decide +kernel
theorem own_d5_6 : decode prog_89_method_12_code 6 = .ok (.lstore_n 2, 1) := by decide +kernel
theorem own_d5_7 : decode prog_89_method_12_code 7 = .ok (.aload_n 0, 1) := by decide +kernel
theorem own_d5_8 : decode prog_89_method_12_code 8 = .ok (.getfield 19, 3) := by decide +kernel
theorem own_d5_11 : decode prog_89_method_12_code 11 = .ok (.iload_n 1, 1) := by decide +kernel
theorem own_d5_12 : decode prog_89_method_12_code 12 = .ok (.isub, 1) := by decide +kernel
theorem own_d5_13 : decode prog_89_method_12_code 13 = .ok (.istore 4, 2) := by decide +kernel
theorem own_d5_15 : decode prog_89_method_12_code 15 = .ok (.iload 4, 2) := by decide +kernel
theorem own_d5_17 : decode prog_89_method_12_code 17 = .ok (.aload_n 0, 1) := by decide +kernel
theorem own_d5_18 : decode prog_89_method_12_code 18 = .ok (.getfield 19, 3) := by decide +kernel
theorem own_d5_21 : decode prog_89_method_12_code 21 = .ok (.if_icmp .ge 27, 3) := by decide +kernel
theorem own_d5_48 : decode prog_89_method_12_code 48 = .ok (.lload_n 2, 1) := by decide +kernel
theorem own_d5_49 : decode prog_89_method_12_code 49 = .ok (.lreturn, 1) := by decide +kernel
theorem own_d5_24 : decode prog_89_method_12_code 24 = .ok (.lload_n 2, 1) := by decide +kernel
theorem own_d5_25 : decode prog_89_method_12_code 25 = .ok (.bipush 8, 2) := by decide +kernel
theorem own_d5_27 : decode prog_89_method_12_code 27 = .ok (.lshl, 1) := by decide +kernel
theorem own_d5_28 : decode prog_89_method_12_code 28 = .ok (.aload_n 0, 1) := by decide +kernel
theorem own_d5_29 : decode prog_89_method_12_code 29 = .ok (.getfield 9, 3) := by decide +kernel
theorem own_d5_32 : decode prog_89_method_12_code 32 = .ok (.iload 4, 2) := by decide +kernel
theorem own_d5_34 : decode prog_89_method_12_code 34 = .ok (.baload, 1) := by decide +kernel
theorem own_d5_35 : decode prog_89_method_12_code 35 = .ok (.sipush 255, 3) := by decide +kernel
theorem own_d5_38 : decode prog_89_method_12_code 38 = .ok (.iand, 1) := by decide +kernel
theorem own_d5_39 : decode prog_89_method_12_code 39 = .ok (.i2l, 1) := by decide +kernel
theorem own_d5_40 : decode prog_89_method_12_code 40 = .ok (.lor, 1) := by decide +kernel
theorem own_d5_41 : decode prog_89_method_12_code 41 = .ok (.lstore_n 2, 1) := by decide +kernel
theorem own_d5_42 : decode prog_89_method_12_code 42 = .ok (.iinc 4 1, 3) := by decide +kernel
theorem own_d5_45 : decode prog_89_method_12_code 45 = .ok (.goto (-30), 3) := by decide +kernel
theorem own_rm5_ef (m : MethodId) (a : Addr) (n : Int32) (b : Addr) (k : ClassId) (z : Int32) (vs : List Value) (pos : Int32) : entryFrame m #[(.ref a), (.int n)] 5 = mkF m 0 #[.val (.ref a), .val (.int n), .unset, .unset, .unset] [] := by first | (simp [entryFrame, mkF, argsToLocals, Value.category]; done) | rfl
def own_rm5_Q (Z : State) (a : Addr) (n : Int32) (b : Addr) (k : ClassId) (z : Int32) (vs : List Value) (pos : Int32) (h0 : Heap) (n0 : Nat) (v : Option Value) (h : Heap) (L : List Loc) : Prop := ∃ r, v = some (.long r) ∧ Fr n0 L ∧ Keep h0 h [a] ∧ Fld Z h a "com/example/prudent_till/prudenttill/store/StoredFields$Reader" "bytes" "[B" (.ref b) ∧ Fld Z h a "com/example/prudent_till/prudenttill/store/StoredFields$Reader" "position" "I" (.int (pos + n))
set_option maxRecDepth 65536 in
set_option maxHeartbeats 40000000 in
theorem own_rm5 (l : Launch) (Z : State) (a0 : Array Value) (hw : ∀ d ∈ tables_1, d.before a0 Z = true) (ws : List Jvm.Cond) (a : Addr) (n : Int32) (b : Addr) (k : ClassId) (z : Int32) (vs : List Value) (pos : Int32) (h0 : Heap) (n0 : Nat) (Z0 : n0 ≤ h0.size) (F_bytes : Fld Z h0 a "com/example/prudent_till/prudenttill/store/StoredFields$Reader" "bytes" "[B" (.ref b)) (F_position : Fld Z h0 a "com/example/prudent_till/prudenttill/store/StoredFields$Reader" "position" "I" (.int pos)) (E_a : Exa Z h0 a "com/example/prudent_till/prudenttill/store/StoredFields$Reader") (V_b : Arv Z h0 b k .byte z vs (.int (0 : Int32))) (hp0 : 0 ≤ pos.toInt) (hz15 : z.toInt ≤ 15) (hn0 : 0 ≤ n.toInt) (hpz : pos.toInt + n.toInt ≤ z.toInt) (g_a : n0 ≤ a) (ne_ba : b ≠ a) :
    MetFree l (⟨"com/example/prudent_till/prudenttill/store/StoredFields$Reader", "getNumber", "(I)J"⟩ : MethodName) (head1 (Jvm.Cond.code (⟨"com/example/prudent_till/prudenttill/store/StoredFields$Reader", "getNumber", "(I)J"⟩ : MethodName) prog_89_method_12_code 5 (some .long) :: ws) ({ frames := 1, cells := 0, slots := 0, locals := 13 } : Room)) (fun as_ U => as_ = #[(.ref a), (.int n)] ∧ Z.Warmed39 U.vm ∧ U.heap = h0) (fun _ _ _ _ _ => True) (fun _ U o U' => ∃ v L, o = .returned v ∧ own_rm5_Q Z a n b k z vs pos h0 n0 v U'.heap L ∧ FrameEnd U o U' L ({ frames := 1, cells := 0, slots := 0, locals := 13 } : Room).cells ({ frames := 1, cells := 0, slots := 0, locals := 13 } : Room).slots) := by
  refine MetFree.of_bodySF (plainFor_of_name own_pn0) hisR ?_
  intro p e s m args below meth c s₁ Bd hml0 hP hK
  obtain ⟨rfl, hZ, hh⟩ := hP
  have hx := Bd.exec
  have hby := Bd.bytes
  have hml : c.maxLocals = 5 := hml0
  have hown : s.vm.findClass "com/example/prudent_till/prudenttill/store/StoredFields$Reader" = some m.cls := findClass_of_methodNamed Bd.named
  have hnm := (name_of_methodNamed Bd.named Bd.method).1
  have X0 : Stand p l e ({ frames := 1, cells := 0, slots := 0, locals := 13 } : Room) s m #[(.ref a), (.int n)] below meth c s₁ [] 0 0 := Stand.of_body Bd
  have e0 : s₁.heap = h0 := by rw [← hh, Bd.state]; rfl
  have N0 := Fr.nil n0
  refine own_begin (own_rm5_ef m a n b k z vs pos) ?_
  show Ends p.tables e below (s₁.setTop (mkF m 0 #[.val (.ref a), .val (.int n), .unset, .unset, .unset] [])) _
  have Kr0 : Keep h0 h0 [a] := Keep.refl h0 _
  have one : (1 : Int32).toInt = 1 := by decide
  have zero : (0 : Int32).toInt = 0 := by decide
  have hleft : ¬ (z - pos) < n := own_left (by omega) hz15 (Int.le_refl _) ⟨hp0, by omega⟩
  refine s_aloadN (pc' := 1) X0.here hx (hb hby own_d5_0) rfl rfl rfl ?_
  refine s_iloadN (pc' := 2) X0.here hx (hb hby own_d5_1) rfl rfl ?_
  refine s_callP (y := (⟨"com/example/prudent_till/prudenttill/store/StoredFields$Reader", "take", "(I)V"⟩ : MethodName)) (zz := (⟨"com/example/prudent_till/prudenttill/store/StoredFields$Reader", "hasRemaining", "()Z"⟩ : MethodName)) (pc' := 5) (W := 0) X0 hx hZ  rfl hown (hw _ (List.mem_of_getElem? (i := 29) rfl)) (hw _ (List.mem_of_getElem? (i := 31) rfl)) (hw _ (List.mem_of_getElem? (i := 4) rfl)) (hw _ (List.mem_of_getElem? (i := 32) rfl)) (hw _ (List.mem_of_getElem? (i := 16) rfl)) (hw _ (List.mem_of_getElem? (i := 30) rfl)) (by decide) e0 E_a (own_rm6 l Z a0 hw [] a n b k z vs pos h0 n0 Z0 F_bytes F_position E_a V_b hleft g_a ne_ba) (by rw [hml]; rfl) [(.int n)] [] rfl (lenOf own_pd0 rfl) rfl (Nat.le_of_eq rfl) (by decide) (by decide) (by decide) (by decide) rfl (hb hby own_d5_2) fun T1 v1 Lc1 X1 hQ1 => ?_
  obtain ⟨rfl, Nq1, Kq1, Fb, Fp⟩ := hQ1
  have N1 := Fr.app N0 Nq1
  have f2 := E_a.keep Kq1
  have f3 := V_b.keep Kq1 (ninS ne_ba nin0)
  have Z4 : n0 ≤ T1.heap.size := Nat.le_trans Z0 Kq1.1
  have K5 : Keep h0 T1.heap [a] := Kr0.trans Kq1 (allS (Or.inl (List.mem_of_getElem? (i := 0) rfl)) all0)
  show Ends p.tables e below (T1.setTop (mkF m 5 #[.val (.ref a), .val (.int n), .unset, .unset, .unset] [])) _
  have q1 : (pos + n).toInt = pos.toInt + n.toInt := own_add (by omega) (by omega)
  have q2 : ((pos + n) - n).toInt = (pos + n).toInt - n.toInt := own_sub (by omega) (by omega)
  refine s_lconst (pc' := 6) X1.here hx (v := (0 : Int64)) (hb hby own_d5_5) rfl rfl ?_
  refine s_lstoreN (pc' := 7) X1.here hx (l' := #[.val (.ref a), .val (.int n), .val (.long (0 : Int64)), .second, .unset]) (hb hby own_d5_6) rfl rfl ?_
  refine s_aloadN (pc' := 8) X1.here hx (hb hby own_d5_7) rfl rfl rfl ?_
  refine s_getF (pc' := 11) X1 hx hZ hown (host := "") (Or.inl (hw _ (List.mem_of_getElem? (i := 18) rfl))) Via.refl rfl Fp (hb hby own_d5_8) rfl fun T6 X6 e6 => ?_
  refine s_iloadN (pc' := 12) X6.here hx (hb hby own_d5_11) rfl rfl ?_
  refine s_isub (pc' := 13) X6.here hx (hb hby own_d5_12) rfl ?_
  refine s_istore (pc' := 15) X6.here hx (l' := #[.val (.ref a), .val (.int n), .val (.long (0 : Int64)), .second, .val (.int ((pos + n) - n))]) (hb hby own_d5_13) rfl rfl ?_
  obtain ⟨LL7, XLL7, NLL7⟩ : ∃ LL, Stand p l e ({ frames := 1, cells := 0, slots := 0, locals := 13 } : Room) s m #[(.ref a), (.int n)] below meth c T6 LL 0 0 ∧ Fr n0 LL := ⟨_, X6, N1⟩
  refine own_join (α := Nat × State × Int32 × Int64) (fun ⟨kk, TT, i, r⟩ => TT.setTop (mkF m 15 #[.val (.ref a), .val (.int n), .val (.long r), .second, .val (.int i)] [])) (fun ⟨kk, TT, i, r⟩ => Stand p l e ({ frames := 1, cells := 0, slots := 0, locals := 13 } : Room) s m #[(.ref a), (.int n)] below meth c TT LL7 0 0 ∧ TT.heap = T1.heap ∧ (0 ≤ i.toInt ∧ i.toInt + kk = (pos + n).toInt)) (fun key => key (n.toInt.toNat, T6, ((pos + n) - n), (0 : Int64)) ⟨XLL7, e6, ⟨by omega, by omega⟩⟩) ?_
  rintro ⟨kk, TT, i, r⟩ ⟨XX, eX, hI⟩
  dsimp only at XX eX hI ⊢
  induction kk generalizing TT i r with
  | zero =>
    show Ends p.tables e below (TT.setTop (mkF m 15 #[.val (.ref a), .val (.int n), .val (.long r), .second, .val (.int i)] [])) _
    refine s_iload (pc' := 17) XX.here hx (hb hby own_d5_15) rfl rfl ?_
    refine s_aloadN (pc' := 18) XX.here hx (hb hby own_d5_17) rfl rfl rfl ?_
    refine s_getF (pc' := 21) XX hx hZ hown (host := "") (Or.inl (hw _ (List.mem_of_getElem? (i := 18) rfl))) Via.refl eX Fp (hb hby own_d5_18) rfl fun T8 X8 e8 => ?_
    have hk9 : ¬ (i < (pos + n)) := own_nlt (by omega)
    refine s_icmpYes (pc' := 48) X8.here hx (hb hby own_d5_21) (flt hk9).2.1 (by decide) (by decide) ?_
    refine s_lloadN (pc' := 49) X8.here hx (hb hby own_d5_48) rfl rfl ?_
    obtain ⟨fs, hr, hrun, hended, hW, hsame⟩ := X8.leave (v := some (.long r)) (fun h => by rw [Bd.returns] at h; cases h)
    refine ⟨_, _, retOut X8 hx Bd.returns rfl (Or.inr (Or.inl ⟨rfl, rfl, _, rfl⟩)) (hb hby own_d5_49) hr, hrun, hended, _, _, rfl, ?_, ⟨_, rfl⟩, hW, hsame.mono (by decide) (by decide)⟩
    show own_rm5_Q Z a n b k z vs pos h0 n0 _ T8.heap _
    rw [e8]
    exact ⟨r, rfl, NLL7, K5, Fb, Fp⟩
  | succ kk ih =>
    show Ends p.tables e below (TT.setTop (mkF m 15 #[.val (.ref a), .val (.int n), .val (.long r), .second, .val (.int i)] [])) _
    refine s_iload (pc' := 17) XX.here hx (hb hby own_d5_15) rfl rfl ?_
    refine s_aloadN (pc' := 18) XX.here hx (hb hby own_d5_17) rfl rfl rfl ?_
    refine s_getF (pc' := 21) XX hx hZ hown (host := "") (Or.inl (hw _ (List.mem_of_getElem? (i := 18) rfl))) Via.refl eX Fp (hb hby own_d5_18) rfl fun T10 X10 e10 => ?_
    have hk11 : i < (pos + n) := own_lt (by omega)
    refine s_icmpNo (pc' := 24) X10.here hx (hb hby own_d5_21) (tlt hk11).2.1 rfl ?_
    refine s_lloadN (pc' := 25) X10.here hx (hb hby own_d5_24) rfl rfl ?_
    refine s_bipush (pc' := 27) X10.here hx (v := (8 : Int32)) (hb hby own_d5_25) rfl rfl ?_
    refine s_lshl (pc' := 28) X10.here hx (hb hby own_d5_27) rfl ?_
    refine s_aloadN (pc' := 29) X10.here hx (hb hby own_d5_28) rfl rfl rfl ?_
    refine s_getF (pc' := 32) X10 hx hZ hown (host := "") (Or.inl (hw _ (List.mem_of_getElem? (i := 11) rfl))) Via.refl e10 Fb (hb hby own_d5_29) rfl fun T12 X12 e12 => ?_
    refine s_iload (pc' := 34) X12.here hx (hb hby own_d5_32) rfl rfl ?_
    have i0 : ¬ i < 0 := own_nlt (by omega)
    have i1 : i < z := own_lt (by omega)
    obtain ⟨x, hx0⟩ := own_byteAt f3 i0 i1
    refine s_baload (pc' := 35) (v := (.int x)) X12 hx hZ e12 f3 ⟨i0, i1⟩ hx0 (hb hby own_d5_34) rfl ?_
    refine s_sipush (pc' := 38) X12.here hx (v := (255 : Int32)) (hb hby own_d5_35) rfl rfl ?_
    refine s_iand (pc' := 39) X12.here hx (hb hby own_d5_38) rfl ?_
    refine s_i2l (pc' := 40) X12.here hx (hb hby own_d5_39) rfl ?_
    refine s_lor (pc' := 41) X12.here hx (hb hby own_d5_40) rfl ?_
    refine s_lstoreN (pc' := 42) X12.here hx (l' := #[.val (.ref a), .val (.int n), .val (.long ((r <<< ((8 : Int32) &&& 0x3f).toInt64) ||| ((x &&& (255 : Int32)).toInt64))), .second, .val (.int i)]) (hb hby own_d5_41) rfl rfl ?_
    refine s_iinc (pc' := 45) X12.here hx (v := (1 : Int32)) (l' := #[.val (.ref a), .val (.int n), .val (.long ((r <<< ((8 : Int32) &&& 0x3f).toInt64) ||| ((x &&& (255 : Int32)).toInt64))), .second, .val (.int (i + (1 : Int32)))]) (hb hby own_d5_42) rfl rfl rfl rfl ?_
    refine s_goto (pc' := 15) X12.here hx (hb hby own_d5_45) (by decide) (by decide) ?_
    have q3 : (i + (1 : Int32)).toInt = i.toInt + (1 : Int32).toInt := own_add (by omega) (by omega)
    exact ih T12 (i + (1 : Int32)) ((r <<< ((8 : Int32) &&& 0x3f).toInt64) ||| ((x &&& (255 : Int32)).toInt64)) X12 e12 (⟨by omega, by omega⟩)
theorem own_d4_0 : decode prog_89_method_3_code 0 = .ok (.aload_n 0, 1) := by decide +kernel
theorem own_d4_1 : decode prog_89_method_3_code 1 = .ok (.iconst 4, 1) := by decide +kernel
theorem own_d4_2 : decode prog_89_method_3_code 2 = .ok (.invokevirtual 25, 3) := by decide +kernel
theorem own_pd1 : parseMethodDescriptor "(I)J" = some ⟨[.int], some .long⟩ := by decide +kernel
theorem own_d4_5 : decode prog_89_method_3_code 5 = .ok (.l2i, 1) := by decide +kernel
theorem own_d4_6 : decode prog_89_method_3_code 6 = .ok (.ireturn, 1) := by decide +kernel
theorem own_rm4_ef (m : MethodId) (a : Addr) (b : Addr) (k : ClassId) (z : Int32) (vs : List Value) (pos : Int32) : entryFrame m #[(.ref a)] 1 = mkF m 0 #[.val (.ref a)] [] := by first | (simp [entryFrame, mkF, argsToLocals, Value.category]; done) | rfl
def own_rm4_Q (Z : State) (a : Addr) (b : Addr) (k : ClassId) (z : Int32) (vs : List Value) (pos : Int32) (h0 : Heap) (n0 : Nat) (v : Option Value) (h : Heap) (L : List Loc) : Prop := ∃ r, v = some (.int r) ∧ Fr n0 L ∧ Keep h0 h [a] ∧ Fld Z h a "com/example/prudent_till/prudenttill/store/StoredFields$Reader" "bytes" "[B" (.ref b) ∧ Fld Z h a "com/example/prudent_till/prudenttill/store/StoredFields$Reader" "position" "I" (.int (pos + (4 : Int32)))
set_option maxRecDepth 65536 in
set_option maxHeartbeats 40000000 in
theorem own_rm4 (l : Launch) (Z : State) (a0 : Array Value) (hw : ∀ d ∈ tables_1, d.before a0 Z = true) (ws : List Jvm.Cond) (a : Addr) (b : Addr) (k : ClassId) (z : Int32) (vs : List Value) (pos : Int32) (h0 : Heap) (n0 : Nat) (Z0 : n0 ≤ h0.size) (F_bytes : Fld Z h0 a "com/example/prudent_till/prudenttill/store/StoredFields$Reader" "bytes" "[B" (.ref b)) (F_position : Fld Z h0 a "com/example/prudent_till/prudenttill/store/StoredFields$Reader" "position" "I" (.int pos)) (E_a : Exa Z h0 a "com/example/prudent_till/prudenttill/store/StoredFields$Reader") (V_b : Arv Z h0 b k .byte z vs (.int (0 : Int32))) (hp0 : 0 ≤ pos.toInt) (hz15 : z.toInt ≤ 15) (hpz : pos.toInt + 4 ≤ z.toInt) (g_a : n0 ≤ a) (ne_ba : b ≠ a) :
    MetFree l (⟨"com/example/prudent_till/prudenttill/store/StoredFields$Reader", "getInt", "()I"⟩ : MethodName) (head1 (Jvm.Cond.code (⟨"com/example/prudent_till/prudenttill/store/StoredFields$Reader", "getInt", "()I"⟩ : MethodName) prog_89_method_3_code 1 (some .int) :: ws) ({ frames := 2, cells := 0, slots := 0, locals := 29 } : Room)) (fun as_ U => as_ = #[(.ref a)] ∧ Z.Warmed39 U.vm ∧ U.heap = h0) (fun _ _ _ _ _ => True) (fun _ U o U' => ∃ v L, o = .returned v ∧ own_rm4_Q Z a b k z vs pos h0 n0 v U'.heap L ∧ FrameEnd U o U' L ({ frames := 2, cells := 0, slots := 0, locals := 29 } : Room).cells ({ frames := 2, cells := 0, slots := 0, locals := 29 } : Room).slots) := by
  refine MetFree.of_bodySF (plainFor_of_name own_pn0) hisR ?_
  intro p e s m args below meth c s₁ Bd hml0 hP hK
  obtain ⟨rfl, hZ, hh⟩ := hP
  have hx := Bd.exec
  have hby := Bd.bytes
  have hml : c.maxLocals = 1 := hml0
  have hown : s.vm.findClass "com/example/prudent_till/prudenttill/store/StoredFields$Reader" = some m.cls := findClass_of_methodNamed Bd.named
  have hnm := (name_of_methodNamed Bd.named Bd.method).1
  have X0 : Stand p l e ({ frames := 2, cells := 0, slots := 0, locals := 29 } : Room) s m #[(.ref a)] below meth c s₁ [] 0 0 := Stand.of_body Bd
  have e0 : s₁.heap = h0 := by rw [← hh, Bd.state]; rfl
  have N0 := Fr.nil n0
  refine own_begin (own_rm4_ef m a b k z vs pos) ?_
  show Ends p.tables e below (s₁.setTop (mkF m 0 #[.val (.ref a)] [])) _
  have Kr0 : Keep h0 h0 [a] := Keep.refl h0 _
  refine s_aloadN (pc' := 1) X0.here hx (hb hby own_d4_0) rfl rfl rfl ?_
  refine s_iconst (pc' := 2) X0.here hx (v := (4 : Int32)) (hb hby own_d4_1) rfl rfl ?_
  refine s_callP (y := (⟨"com/example/prudent_till/prudenttill/store/StoredFields$Reader", "getNumber", "(I)J"⟩ : MethodName)) (zz := (⟨"com/example/prudent_till/prudenttill/store/StoredFields$Reader", "hasRemaining", "()Z"⟩ : MethodName)) (pc' := 5) (W := 0) X0 hx hZ  rfl hown (hw _ (List.mem_of_getElem? (i := 25) rfl)) (hw _ (List.mem_of_getElem? (i := 27) rfl)) (hw _ (List.mem_of_getElem? (i := 4) rfl)) (hw _ (List.mem_of_getElem? (i := 28) rfl)) (hw _ (List.mem_of_getElem? (i := 16) rfl)) (hw _ (List.mem_of_getElem? (i := 26) rfl)) (by decide) e0 E_a (own_rm5 l Z a0 hw [] a (4 : Int32) b k z vs pos h0 n0 Z0 F_bytes F_position E_a V_b hp0 hz15 (by decide) hpz g_a ne_ba) (by rw [hml]; rfl) [(.int (4 : Int32))] [] rfl (lenOf own_pd1 rfl) rfl (Nat.le_of_eq rfl) (by decide) (by decide) (by decide) (by decide) rfl (hb hby own_d4_2) fun T1 v1 Lc1 X1 hQ1 => ?_
  obtain ⟨r, rfl, Nq1, Kq1, Fb, Fp⟩ := hQ1
  have N1 := Fr.app N0 Nq1
  have f2 := E_a.keep Kq1
  have f3 := V_b.keep Kq1 (ninS ne_ba nin0)
  have Z4 : n0 ≤ T1.heap.size := Nat.le_trans Z0 Kq1.1
  have K5 : Keep h0 T1.heap [a] := Kr0.trans Kq1 (allS (Or.inl (List.mem_of_getElem? (i := 0) rfl)) all0)
  show Ends p.tables e below (T1.setTop (mkF m 5 #[.val (.ref a)] [(.long r)])) _
  refine s_l2i (pc' := 6) X1.here hx (hb hby own_d4_5) rfl ?_
  obtain ⟨fs, hr, hrun, hended, hW, hsame⟩ := X1.leave (v := some (.int (r.toInt32))) (fun h => by rw [Bd.returns] at h; cases h)
  refine ⟨_, _, retOut X1 hx Bd.returns rfl (Or.inl ⟨rfl, Or.inl rfl, _, rfl⟩) (hb hby own_d4_6) hr, hrun, hended, _, _, rfl, ?_, ⟨_, rfl⟩, hW, hsame.mono (by decide) (by decide)⟩
  show own_rm4_Q Z a b k z vs pos h0 n0 _ T1.heap _
  exact ⟨(r.toInt32), rfl, N1, K5, Fb, Fp⟩
theorem own_d8_0 : decode prog_89_method_4_code 0 = .ok (.aload_n 0, 1) := by decide +kernel
theorem own_d8_1 : decode prog_89_method_4_code 1 = .ok (.bipush 8, 2) := by decide +kernel
theorem own_d8_3 : decode prog_89_method_4_code 3 = .ok (.invokevirtual 25, 3) := by decide +kernel
theorem own_d8_6 : decode prog_89_method_4_code 6 = .ok (.lreturn, 1) := by decide +kernel
theorem own_rm8_ef (m : MethodId) (a : Addr) (b : Addr) (k : ClassId) (z : Int32) (vs : List Value) (pos : Int32) : entryFrame m #[(.ref a)] 1 = mkF m 0 #[.val (.ref a)] [] := by first | (simp [entryFrame, mkF, argsToLocals, Value.category]; done) | rfl
def own_rm8_Q (Z : State) (a : Addr) (b : Addr) (k : ClassId) (z : Int32) (vs : List Value) (pos : Int32) (h0 : Heap) (n0 : Nat) (v : Option Value) (h : Heap) (L : List Loc) : Prop := ∃ r, v = some (.long r) ∧ Fr n0 L ∧ Keep h0 h [a] ∧ Fld Z h a "com/example/prudent_till/prudenttill/store/StoredFields$Reader" "bytes" "[B" (.ref b) ∧ Fld Z h a "com/example/prudent_till/prudenttill/store/StoredFields$Reader" "position" "I" (.int (pos + (8 : Int32)))
set_option maxRecDepth 65536 in
set_option maxHeartbeats 40000000 in
theorem own_rm8 (l : Launch) (Z : State) (a0 : Array Value) (hw : ∀ d ∈ tables_1, d.before a0 Z = true) (ws : List Jvm.Cond) (a : Addr) (b : Addr) (k : ClassId) (z : Int32) (vs : List Value) (pos : Int32) (h0 : Heap) (n0 : Nat) (Z0 : n0 ≤ h0.size) (F_bytes : Fld Z h0 a "com/example/prudent_till/prudenttill/store/StoredFields$Reader" "bytes" "[B" (.ref b)) (F_position : Fld Z h0 a "com/example/prudent_till/prudenttill/store/StoredFields$Reader" "position" "I" (.int pos)) (E_a : Exa Z h0 a "com/example/prudent_till/prudenttill/store/StoredFields$Reader") (V_b : Arv Z h0 b k .byte z vs (.int (0 : Int32))) (hp0 : 0 ≤ pos.toInt) (hz15 : z.toInt ≤ 15) (hpz : pos.toInt + 8 ≤ z.toInt) (g_a : n0 ≤ a) (ne_ba : b ≠ a) :
    MetFree l (⟨"com/example/prudent_till/prudenttill/store/StoredFields$Reader", "getLong", "()J"⟩ : MethodName) (head1 (Jvm.Cond.code (⟨"com/example/prudent_till/prudenttill/store/StoredFields$Reader", "getLong", "()J"⟩ : MethodName) prog_89_method_4_code 1 (some .long) :: ws) ({ frames := 2, cells := 0, slots := 0, locals := 29 } : Room)) (fun as_ U => as_ = #[(.ref a)] ∧ Z.Warmed39 U.vm ∧ U.heap = h0) (fun _ _ _ _ _ => True) (fun _ U o U' => ∃ v L, o = .returned v ∧ own_rm8_Q Z a b k z vs pos h0 n0 v U'.heap L ∧ FrameEnd U o U' L ({ frames := 2, cells := 0, slots := 0, locals := 29 } : Room).cells ({ frames := 2, cells := 0, slots := 0, locals := 29 } : Room).slots) := by
  refine MetFree.of_bodySF (plainFor_of_name own_pn0) hisR ?_
  intro p e s m args below meth c s₁ Bd hml0 hP hK
  obtain ⟨rfl, hZ, hh⟩ := hP
  have hx := Bd.exec
  have hby := Bd.bytes
  have hml : c.maxLocals = 1 := hml0
  have hown : s.vm.findClass "com/example/prudent_till/prudenttill/store/StoredFields$Reader" = some m.cls := findClass_of_methodNamed Bd.named
  have hnm := (name_of_methodNamed Bd.named Bd.method).1
  have X0 : Stand p l e ({ frames := 2, cells := 0, slots := 0, locals := 29 } : Room) s m #[(.ref a)] below meth c s₁ [] 0 0 := Stand.of_body Bd
  have e0 : s₁.heap = h0 := by rw [← hh, Bd.state]; rfl
  have N0 := Fr.nil n0
  refine own_begin (own_rm8_ef m a b k z vs pos) ?_
  show Ends p.tables e below (s₁.setTop (mkF m 0 #[.val (.ref a)] [])) _
  have Kr0 : Keep h0 h0 [a] := Keep.refl h0 _
  refine s_aloadN (pc' := 1) X0.here hx (hb hby own_d8_0) rfl rfl rfl ?_
  refine s_bipush (pc' := 3) X0.here hx (v := (8 : Int32)) (hb hby own_d8_1) rfl rfl ?_
  refine s_callP (y := (⟨"com/example/prudent_till/prudenttill/store/StoredFields$Reader", "getNumber", "(I)J"⟩ : MethodName)) (zz := (⟨"com/example/prudent_till/prudenttill/store/StoredFields$Reader", "hasRemaining", "()Z"⟩ : MethodName)) (pc' := 6) (W := 0) X0 hx hZ  rfl hown (hw _ (List.mem_of_getElem? (i := 25) rfl)) (hw _ (List.mem_of_getElem? (i := 27) rfl)) (hw _ (List.mem_of_getElem? (i := 4) rfl)) (hw _ (List.mem_of_getElem? (i := 28) rfl)) (hw _ (List.mem_of_getElem? (i := 16) rfl)) (hw _ (List.mem_of_getElem? (i := 26) rfl)) (by decide) e0 E_a (own_rm5 l Z a0 hw [] a (8 : Int32) b k z vs pos h0 n0 Z0 F_bytes F_position E_a V_b hp0 hz15 (by decide) hpz g_a ne_ba) (by rw [hml]; rfl) [(.int (8 : Int32))] [] rfl (lenOf own_pd1 rfl) rfl (Nat.le_of_eq rfl) (by decide) (by decide) (by decide) (by decide) rfl (hb hby own_d8_3) fun T1 v1 Lc1 X1 hQ1 => ?_
  obtain ⟨r, rfl, Nq1, Kq1, Fb, Fp⟩ := hQ1
  have N1 := Fr.app N0 Nq1
  have f2 := E_a.keep Kq1
  have f3 := V_b.keep Kq1 (ninS ne_ba nin0)
  have Z4 : n0 ≤ T1.heap.size := Nat.le_trans Z0 Kq1.1
  have K5 : Keep h0 T1.heap [a] := Kr0.trans Kq1 (allS (Or.inl (List.mem_of_getElem? (i := 0) rfl)) all0)
  show Ends p.tables e below (T1.setTop (mkF m 6 #[.val (.ref a)] [(.long r)])) _
  obtain ⟨fs, hr, hrun, hended, hW, hsame⟩ := X1.leave (v := some (.long r)) (fun h => by rw [Bd.returns] at h; cases h)
  refine ⟨_, _, retOut X1 hx Bd.returns rfl (Or.inr (Or.inl ⟨rfl, rfl, _, rfl⟩)) (hb hby own_d8_6) hr, hrun, hended, _, _, rfl, ?_, ⟨_, rfl⟩, hW, hsame.mono (by decide) (by decide)⟩
  show own_rm8_Q Z a b k z vs pos h0 n0 _ T1.heap _
  exact ⟨r, rfl, N1, K5, Fb, Fp⟩
theorem own_n15 (p : Int32) : 0 ≤ (p &&& (15 : Int32)).toInt ∧ (p &&& (15 : Int32)).toInt ≤ 15 := by
  have hm := c_mask p 15 4 (by decide) (by decide)
  omega
theorem own_kn {q n : Int32} (h0 : 0 ≤ n.toInt) (h15 : n.toInt ≤ 15) : (n + (1 : Int32)).toInt = n.toInt + 1 ∧ 0 ≤ ((q &&& (2147483647 : Int32)) % (n + (1 : Int32))).toInt ∧ ((q &&& (2147483647 : Int32)) % (n + (1 : Int32))).toInt ≤ n.toInt := by
  have hm := c_mask q 2147483647 31 (by decide) (by decide)
  have one : (1 : Int32).toInt = 1 := by decide
  have hs : (n + (1 : Int32)).toInt = n.toInt + (1 : Int32).toInt := own_add (by omega) (by omega)
  have hr := (c_iremV (q &&& (2147483647 : Int32)) (n + (1 : Int32))).1 (by omega) (by omega)
  omega
theorem own_16 {k : Int32} (h0 : 0 ≤ k.toInt) (h1 : k.toInt ≤ 15) : k = 0 ∨ k = 1 ∨ k = 2 ∨ k = 3 ∨ k = 4 ∨ k = 5 ∨ k = 6 ∨ k = 7 ∨ k = 8 ∨ k = 9 ∨ k = 10 ∨ k = 11 ∨ k = 12 ∨ k = 13 ∨ k = 14 ∨ k = 15 := by
  have : k.toInt = (0 : Int32).toInt ∨ k.toInt = (1 : Int32).toInt ∨ k.toInt = (2 : Int32).toInt ∨ k.toInt = (3 : Int32).toInt ∨ k.toInt = (4 : Int32).toInt ∨ k.toInt = (5 : Int32).toInt ∨ k.toInt = (6 : Int32).toInt ∨ k.toInt = (7 : Int32).toInt ∨ k.toInt = (8 : Int32).toInt ∨ k.toInt = (9 : Int32).toInt ∨ k.toInt = (10 : Int32).toInt ∨ k.toInt = (11 : Int32).toInt ∨ k.toInt = (12 : Int32).toInt ∨ k.toInt = (13 : Int32).toInt ∨ k.toInt = (14 : Int32).toInt ∨ k.toInt = (15 : Int32).toInt := by
    have e0 : (0 : Int32).toInt = 0 := by decide
    have e1 : (1 : Int32).toInt = 1 := by decide
    have e2 : (2 : Int32).toInt = 2 := by decide
    have e3 : (3 : Int32).toInt = 3 := by decide
    have e4 : (4 : Int32).toInt = 4 := by decide
    have e5 : (5 : Int32).toInt = 5 := by decide
    have e6 : (6 : Int32).toInt = 6 := by decide
    have e7 : (7 : Int32).toInt = 7 := by decide
    have e8 : (8 : Int32).toInt = 8 := by decide
    have e9 : (9 : Int32).toInt = 9 := by decide
    have e10 : (10 : Int32).toInt = 10 := by decide
    have e11 : (11 : Int32).toInt = 11 := by decide
    have e12 : (12 : Int32).toInt = 12 := by decide
    have e13 : (13 : Int32).toInt = 13 := by decide
    have e14 : (14 : Int32).toInt = 14 := by decide
    have e15 : (15 : Int32).toInt = 15 := by decide
    omega
  simpa only [Int32.toInt_inj] using this
theorem own_pd2 : parseMethodDescriptor "([B)V" = some ⟨[(.array .byte)], none⟩ := by decide +kernel
theorem own_pd3 : parseMethodDescriptor "()Z" = some ⟨[], some .boolean⟩ := by decide +kernel
theorem own_pd4 : parseMethodDescriptor "()B" = some ⟨[], some .byte⟩ := by decide +kernel
theorem own_pd5 : parseMethodDescriptor "()I" = some ⟨[], some .int⟩ := by decide +kernel
theorem own_pd6 : parseMethodDescriptor "()J" = some ⟨[], some .long⟩ := by decide +kernel
theorem own_pn1 : plainName "com/example/prudent_till/prudenttill/store/ReaderHasRemainingPinLaw" = true := by first | (simp [plainName, overriddenIn]; done) | decide +kernel
theorem own_rm0_ef (m : MethodId) (p1 : Int32) (p2 : Int32) (p3 : Int32) : entryFrame m #[(.int p1), (.int p2), (.int p3)] maxLocals = mkF m 0 #[.val (.int p1), .val (.int p2), .val (.int p3), .unset, .unset, .unset, .unset, .unset, .unset, .unset] [] := by first | (simp [entryFrame, mkF, argsToLocals, Value.category, maxLocals]; done) | rfl
def own_rm0_Q (Z : State) (p1 : Int32) (p2 : Int32) (p3 : Int32) (h0 : Heap) (n0 : Nat) (v : Option Value) (h : Heap) (L : List Loc) : Prop := v = some (.int 1) ∧ Fr n0 L
set_option maxRecDepth 65536 in
set_option maxHeartbeats 40000000 in
theorem own_rm0 (l : Launch) (Z : State) (a0 : Array Value) (hw : ∀ d ∈ tables_1, d.before a0 Z = true) (ws : List Jvm.Cond) (p1 : Int32) (p2 : Int32) (p3 : Int32) (h0 : Heap) (n0 : Nat) (Z0 : n0 ≤ h0.size) :
    MetFree l x (head1 (Jvm.Cond.code x code maxLocals ret :: ws) room_1) (fun as_ U => as_ = #[(.int p1), (.int p2), (.int p3)] ∧ Z.Warmed39 U.vm ∧ U.heap = h0) (fun _ _ _ _ _ => True) (fun _ U o U' => ∃ v L, o = .returned v ∧ own_rm0_Q Z p1 p2 p3 h0 n0 v U'.heap L ∧ FrameEnd U o U' L room_1.cells room_1.slots) := by
  refine MetFree.of_bodySF (plainFor_of_name own_pn1) hisR ?_
  intro p e s m args below meth c s₁ Bd hml0 hP hK
  obtain ⟨rfl, hZ, hh⟩ := hP
  have hx := Bd.exec
  have hby := Bd.bytes
  have hml : c.maxLocals = 10 := hml0
  have hown : s.vm.findClass "com/example/prudent_till/prudenttill/store/ReaderHasRemainingPinLaw" = some m.cls := findClass_of_methodNamed Bd.named
  have hnm := (name_of_methodNamed Bd.named Bd.method).1
  have X0 : Stand p l e room_1 s m #[(.int p1), (.int p2), (.int p3)] below meth c s₁ [] 0 0 := Stand.of_body Bd
  have e0 : s₁.heap = h0 := by rw [← hh, Bd.state]; rfl
  have N0 := Fr.nil n0
  refine own_begin (own_rm0_ef m p1 p2 p3) ?_
  show Ends p.tables e below (s₁.setTop (mkF m 0 #[.val (.int p1), .val (.int p2), .val (.int p3), .unset, .unset, .unset, .unset, .unset, .unset, .unset] [])) _
  have one : (1 : Int32).toInt = 1 := by decide
  have zero : (0 : Int32).toInt = 0 := by decide
  refine s_iloadN (pc' := 1) X0.here hx (hb hby at_0) rfl rfl ?_
  refine s_bipush (pc' := 3) X0.here hx (v := (15 : Int32)) (hb hby at_1) rfl rfl ?_
  refine s_iand (pc' := 4) X0.here hx (hb hby at_3) rfl ?_
  obtain ⟨n, hn⟩ : ∃ z : Int32, z = (p1 &&& (15 : Int32)) := ⟨_, rfl⟩
  rw [← hn]
  have n0_ : 0 ≤ n.toInt := hn ▸ (own_n15 p1).1
  have n15 : n.toInt ≤ 15 := hn ▸ (own_n15 p1).2
  have kn := own_kn (q := p2) n0_ n15
  refine s_istoreN (pc' := 5) X0.here hx (l' := #[.val (.int p1), .val (.int p2), .val (.int p3), .val (.int n), .unset, .unset, .unset, .unset, .unset, .unset]) (hb hby at_4) rfl rfl ?_
  refine s_iloadN (pc' := 6) X0.here hx (hb hby at_5) rfl rfl ?_
  refine s_ldcI (pc' := 8) X0 hx hZ hown (hw _ (List.mem_of_getElem? (i := 0) rfl)) (hb hby at_6) rfl ?_
  refine s_iand (pc' := 9) X0.here hx (hb hby at_8) rfl ?_
  refine s_iloadN (pc' := 10) X0.here hx (hb hby at_9) rfl rfl ?_
  refine s_iconst (pc' := 11) X0.here hx (v := (1 : Int32)) (hb hby at_10) rfl rfl ?_
  refine s_iadd (pc' := 12) X0.here hx (hb hby at_11) rfl ?_
  refine s_irem (pc' := 13) X0 hx (hb hby at_12) (fun q => by rw [q] at kn; omega) rfl ?_
  obtain ⟨kv0, hk⟩ : ∃ z : Int32, z = ((p2 &&& (2147483647 : Int32)) % (n + (1 : Int32))) := ⟨_, rfl⟩
  rw [← hk]
  rw [← hk] at kn
  refine s_istore (pc' := 15) X0.here hx (l' := #[.val (.int p1), .val (.int p2), .val (.int p3), .val (.int n), .val (.int kv0), .unset, .unset, .unset, .unset, .unset]) (hb hby at_13) rfl rfl ?_
  refine s_iloadN (pc' := 16) X0.here hx (hb hby at_15) rfl rfl ?_
  have nz : ¬ n < 0 := own_nlt (by omega)
  have ncap : n.toNatClampNeg ≤ 15 := by have := nat_of nz; omega
  refine s_newP (pc' := 18) (cap := 15) X0 hx hZ (hw _ (List.mem_of_getElem? (i := 1) rfl)) e0 (hb hby at_16) nz ncap (by decide) (by decide) (by decide) rfl fun T1 hp1 X1 e1 ka1 E1 ba gq1 A1 => ?_
  have g_ba : n0 ≤ ba := Nat.le_trans Z0 (Nat.le_of_eq gq1.symm)
  have Z2 : n0 ≤ hp1.size := Nat.le_trans Z0 E1.1
  have V3 : Arv Z hp1 ba ka1 .byte n [(.int (0 : Int32)), (.int (0 : Int32)), (.int (0 : Int32)), (.int (0 : Int32)), (.int (0 : Int32)), (.int (0 : Int32)), (.int (0 : Int32)), (.int (0 : Int32)), (.int (0 : Int32)), (.int (0 : Int32)), (.int (0 : Int32)), (.int (0 : Int32)), (.int (0 : Int32)), (.int (0 : Int32)), (.int (0 : Int32))] (.int (0 : Int32)) := (Arv.new A1 nz).pad (pad_rep [] (.int (0 : Int32)) 15)
  refine s_astore (pc' := 20) X1.here hx (l' := #[.val (.int p1), .val (.int p2), .val (.int p3), .val (.int n), .val (.int kv0), .val (.ref ba), .unset, .unset, .unset, .unset]) (hb hby at_18) rfl rfl rfl ?_
  refine s_iloadN (pc' := 21) X1.here hx (hb hby at_20) rfl rfl ?_
  by_cases hn1 : (0 : Int32) < n
  · refine s_ifNo (pc' := 24) X1.here hx (hb hby at_21) ((if0 _ _).trans (tlt hn1).2.2.2) rfl ?_
    refine s_aload (pc' := 26) X1.here hx (hb hby at_24) rfl rfl rfl ?_
    refine s_iconst (pc' := 27) X1.here hx (v := (0 : Int32)) (hb hby at_26) rfl rfl ?_
    refine s_iloadN (pc' := 28) X1.here hx (hb hby at_27) rfl rfl ?_
    refine s_i2b (pc' := 29) X1.here hx (hb hby at_28) rfl ?_
    refine s_putB (pc' := 30) X1 hx hZ e1 V3 ⟨by decide, hn1⟩ 0 rfl (Nat.le_of_ble_eq_true rfl) (hb hby at_29) rfl fun T4 hp4 X4 e4 W4 Vw4 => ?_
    have V5 : Arv Z hp4 ba ka1 .byte n [(.int (nar .byte (p3.toInt8.toInt32))), (.int (0 : Int32)), (.int (0 : Int32)), (.int (0 : Int32)), (.int (0 : Int32)), (.int (0 : Int32)), (.int (0 : Int32)), (.int (0 : Int32)), (.int (0 : Int32)), (.int (0 : Int32)), (.int (0 : Int32)), (.int (0 : Int32)), (.int (0 : Int32)), (.int (0 : Int32)), (.int (0 : Int32))] (.int (0 : Int32)) := Vw4
    have N4 := Fr.snoc X4 N0 g_ba
    have Z6 : n0 ≤ hp4.size := Nat.le_trans Z2 (Keep.of_wr W4).1
    refine s_aload (pc' := 32) X4.here hx (hb hby at_30) rfl rfl rfl ?_
    refine s_iloadN (pc' := 33) X4.here hx (hb hby at_32) rfl rfl ?_
    refine s_iconst (pc' := 34) X4.here hx (v := (1 : Int32)) (hb hby at_33) rfl rfl ?_
    refine s_isub (pc' := 35) X4.here hx (hb hby at_34) rfl ?_
    refine s_iloadN (pc' := 36) X4.here hx (hb hby at_35) rfl rfl ?_
    refine s_bipush (pc' := 38) X4.here hx (v := (8 : Int32)) (hb hby at_36) rfl rfl ?_
    refine s_iushr (pc' := 39) X4.here hx (hb hby at_38) rfl ?_
    refine s_i2b (pc' := 40) X4.here hx (hb hby at_39) rfl ?_
    have q1 : (n - (1 : Int32)).toInt = n.toInt - (1 : Int32).toInt := own_sub (by omega) (by omega)
    have hn1' : (0 : Int32).toInt < n.toInt := Int32.lt_iff_toInt_lt.mp hn1
    have i0 : ¬ (n - (1 : Int32)) < 0 := own_nlt (by omega)
    have i1 : (n - (1 : Int32)) < n := own_lt (by omega)
    have i2 : (n - (1 : Int32)).toNatClampNeg < 15 := by have := nat_of i0; omega
    refine s_putB (pc' := 41) X4 hx hZ e4 V5 ⟨i0, i1⟩ (n - (1 : Int32)).toNatClampNeg rfl i2 (hb hby at_40) rfl fun T7 hp7 X7 e7 W7 Vw7 => ?_
    have V8 : Arv Z hp7 ba ka1 .byte n ([(.int (nar .byte (p3.toInt8.toInt32))), (.int (0 : Int32)), (.int (0 : Int32)), (.int (0 : Int32)), (.int (0 : Int32)), (.int (0 : Int32)), (.int (0 : Int32)), (.int (0 : Int32)), (.int (0 : Int32)), (.int (0 : Int32)), (.int (0 : Int32)), (.int (0 : Int32)), (.int (0 : Int32)), (.int (0 : Int32)), (.int (0 : Int32))].set (n - (1 : Int32)).toNatClampNeg (.int (nar .byte (((p3.toUInt32 >>> ((8 : Int32) &&& 31).toUInt32).toInt32).toInt8.toInt32)))) (.int (0 : Int32)) := Vw7
    have N7 := Fr.snoc X7 N4 g_ba
    have Z9 : n0 ≤ hp7.size := Nat.le_trans Z6 (Keep.of_wr W7).1
    obtain ⟨vl, hvl⟩ : ∃ vl : List Value, vl = ([(.int (nar .byte (p3.toInt8.toInt32))), (.int (0 : Int32)), (.int (0 : Int32)), (.int (0 : Int32)), (.int (0 : Int32)), (.int (0 : Int32)), (.int (0 : Int32)), (.int (0 : Int32)), (.int (0 : Int32)), (.int (0 : Int32)), (.int (0 : Int32)), (.int (0 : Int32)), (.int (0 : Int32)), (.int (0 : Int32)), (.int (0 : Int32))].set (n - (1 : Int32)).toNatClampNeg (.int (nar .byte (((p3.toUInt32 >>> ((8 : Int32) &&& 31).toUInt32).toInt32).toInt8.toInt32)))) := ⟨_, rfl⟩
    rw [← hvl] at V8
    refine s_newO (pc' := 44) X7 hx hZ hown (hw _ (List.mem_of_getElem? (i := 2) rfl)) (hw _ (List.mem_of_getElem? (i := 3) rfl)) (hw _ (List.mem_of_getElem? (i := 4) rfl)) e7 (hb hby at_41) (by decide) (by decide) rfl fun T10 hp10 X10 e10 E10 ob gq10 A10 D10 => ?_
    have g_ob : n0 ≤ ob := Nat.le_trans Z9 (Nat.le_of_eq gq10.symm)
    have ne11 : ba ≠ ob := Nat.ne_of_lt (Nat.lt_of_lt_of_le V8.lt (Nat.le_of_eq gq10.symm))
    have f12 := V8.ext E10
    have Z13 : n0 ≤ hp10.size := Nat.le_trans Z9 E10.1
    have F14 : Fld Z hp10 ob "com/example/prudent_till/prudenttill/store/StoredFields$Reader" "bytes" "[B" .null := D10 (Or.inr (hw _ (List.mem_of_getElem? (i := 12) rfl))) (ty := (.array .byte)) (by decide)
    have F15 : Fld Z hp10 ob "com/example/prudent_till/prudenttill/store/StoredFields$Reader" "position" "I" (.int (0 : Int32)) := D10 (Or.inl (hw _ (List.mem_of_getElem? (i := 19) rfl))) (ty := .int) (by decide)
    refine s_dup (pc' := 45) X10.here hx (hb hby at_44) rfl rfl ?_
    refine s_aload (pc' := 47) X10.here hx (hb hby at_45) rfl rfl rfl ?_
    refine s_callI (pc' := 50) (W := 1) X10 hx hZ  rfl hown (hw _ (List.mem_of_getElem? (i := 5) rfl)) (hw _ (List.mem_of_getElem? (i := 6) rfl)) (hw _ (List.mem_of_getElem? (i := 4) rfl)) (hw _ (List.mem_of_getElem? (i := 7) rfl)) (by decide) e10 (own_rm1 l Z a0 hw [] ob ba hp10 n0 Z13 F14 F15 A10 g_ob) ob (by rw [hml]; rfl) [(.ref ba)] [(.ref ob)] rfl (lenOf own_pd2 rfl) rfl (Nat.le_of_eq rfl) (by decide) (by decide) (by decide) (by decide) rfl (hb hby at_47) fun T16 v16 Lc16 X16 hQ16 => ?_
    obtain ⟨rfl, Nq16, Kq16, Fb, Fp⟩ := hQ16
    have N16 := Fr.app N7 Nq16
    have f17 := f12.keep Kq16 (ninS ne11 nin0)
    have f18 := A10.keep Kq16
    have Z19 : n0 ≤ T16.heap.size := Nat.le_trans Z13 Kq16.1
    show Ends p.tables e below (T16.setTop (mkF m 50 #[.val (.int p1), .val (.int p2), .val (.int p3), .val (.int n), .val (.int kv0), .val (.ref ba), .unset, .unset, .unset, .unset] [(.ref ob)])) _
    refine s_astore (pc' := 52) X16.here hx (l' := #[.val (.int p1), .val (.int p2), .val (.int p3), .val (.int n), .val (.int kv0), .val (.ref ba), .val (.ref ob), .unset, .unset, .unset]) (hb hby at_50) rfl rfl rfl ?_
    refine s_aload (pc' := 54) X16.here hx (hb hby at_52) rfl rfl rfl ?_
    refine s_callV (pc' := 57) (W := 0) X16 hx hZ  hown (hw _ (List.mem_of_getElem? (i := 13) rfl)) (hw _ (List.mem_of_getElem? (i := 14) rfl)) (hw _ (List.mem_of_getElem? (i := 4) rfl)) (hw _ (List.mem_of_getElem? (i := 17) rfl)) (hw _ (List.mem_of_getElem? (i := 16) rfl)) (hw _ (List.mem_of_getElem? (i := 15) rfl)) (by decide) rfl f18 (own_rm3 l Z a0 hw [] ob ba ka1 n vl (0 : Int32) T16.heap n0 Z19 Fb Fp f18 f17) (by rw [hml]; rfl) [] [] rfl (lenOf own_pd3 rfl) rfl (Nat.le_of_eq rfl) (by decide) (by decide) (by decide) (by decide) rfl (hb hby at_54) fun T20 v20 Lc20 X20 hQ20 => ?_
    obtain ⟨rfl, Nq20, eh20⟩ := hQ20
    have N20 := Fr.app N16 Nq20
    show Ends p.tables e below (T20.setTop (mkF m 57 #[.val (.int p1), .val (.int p2), .val (.int p3), .val (.int n), .val (.int kv0), .val (.ref ba), .val (.ref ob), .unset, .unset, .unset] [(.int (if (0 : Int32) < n then 1 else 0))])) _
    have hr21 : (if (0 : Int32) < n then (1 : Int32) else 0) = 1 := by simp only [hn1, if_true]
    rw [hr21]
    refine s_istore (pc' := 59) X20.here hx (l' := #[.val (.int p1), .val (.int p2), .val (.int p3), .val (.int n), .val (.int kv0), .val (.ref ba), .val (.ref ob), .val (.int (1 : Int32)), .unset, .unset]) (hb hby at_57) rfl rfl ?_
    refine s_iload (pc' := 61) X20.here hx (hb hby at_59) rfl rfl ?_
    refine s_iloadN (pc' := 62) X20.here hx (hb hby at_61) rfl rfl ?_
    refine s_ifNo (pc' := 65) X20.here hx (hb hby at_62) ((if0 _ _).trans (tlt hn1).2.2.2) rfl ?_
    refine s_iconst (pc' := 66) X20.here hx (v := (1 : Int32)) (hb hby at_65) rfl rfl ?_
    refine s_goto (pc' := 70) X20.here hx (hb hby at_66) (by decide) (by decide) ?_
    have hk22 : (1 : Int32) = (1 : Int32) := rfl
    refine s_icmpYes (pc' := 75) X20.here hx (hb hby at_70) (teq hk22).1 (by decide) (by decide) ?_
    have k16 := own_16 kn.2.1 (by omega)
    rcases k16 with hq_ | hq_ | hq_ | hq_ | hq_ | hq_ | hq_ | hq_ | hq_ | hq_ | hq_ | hq_ | hq_ | hq_ | hq_ | hq_
    · subst hq_
      refine s_iload (pc' := 77) X20.here hx (hb hby at_75) rfl rfl ?_
      refine s_bipush (pc' := 79) X20.here hx (v := (8 : Int32)) (hb hby at_77) rfl rfl ?_
      refine s_iand (pc' := 80) X20.here hx (hb hby at_79) rfl ?_
      have hk23 : ((0 : Int32) &&& (8 : Int32)) = (0 : Int32) := by decide
      refine s_ifYes (pc' := 89) X20.here hx (hb hby at_80) ((if0 _ _).trans (teq hk23).1) (by decide) (by decide) ?_
      refine s_iload (pc' := 91) X20.here hx (hb hby at_89) rfl rfl ?_
      refine s_iconst (pc' := 92) X20.here hx (v := (4 : Int32)) (hb hby at_91) rfl rfl ?_
      refine s_iand (pc' := 93) X20.here hx (hb hby at_92) rfl ?_
      have hk24 : ((0 : Int32) &&& (4 : Int32)) = (0 : Int32) := by decide
      refine s_ifYes (pc' := 102) X20.here hx (hb hby at_93) ((if0 _ _).trans (teq hk24).1) (by decide) (by decide) ?_
      refine s_iload (pc' := 104) X20.here hx (hb hby at_102) rfl rfl ?_
      refine s_iconst (pc' := 105) X20.here hx (v := (2 : Int32)) (hb hby at_104) rfl rfl ?_
      refine s_iand (pc' := 106) X20.here hx (hb hby at_105) rfl ?_
      have hk25 : ((0 : Int32) &&& (2 : Int32)) = (0 : Int32) := by decide
      refine s_ifYes (pc' := 121) X20.here hx (hb hby at_106) ((if0 _ _).trans (teq hk25).1) (by decide) (by decide) ?_
      refine s_iload (pc' := 123) X20.here hx (hb hby at_121) rfl rfl ?_
      refine s_iconst (pc' := 124) X20.here hx (v := (1 : Int32)) (hb hby at_123) rfl rfl ?_
      refine s_iand (pc' := 125) X20.here hx (hb hby at_124) rfl ?_
      have hk26 : ((0 : Int32) &&& (1 : Int32)) = (0 : Int32) := by decide
      refine s_ifYes (pc' := 134) X20.here hx (hb hby at_125) ((if0 _ _).trans (teq hk26).1) (by decide) (by decide) ?_
      refine s_aload (pc' := 136) X20.here hx (hb hby at_134) rfl rfl rfl ?_
      have pk : (0 : Int32) = (0 : Int32) := by decide
      by_cases hkn : (0 : Int32) < n
      · refine s_callV (pc' := 139) (W := 0) X20 hx hZ  hown (hw _ (List.mem_of_getElem? (i := 13) rfl)) (hw _ (List.mem_of_getElem? (i := 14) rfl)) (hw _ (List.mem_of_getElem? (i := 4) rfl)) (hw _ (List.mem_of_getElem? (i := 17) rfl)) (hw _ (List.mem_of_getElem? (i := 16) rfl)) (hw _ (List.mem_of_getElem? (i := 15) rfl)) (by decide) eh20 f18 (own_rm3 l Z a0 hw [] ob ba ka1 n vl (0 : Int32) T16.heap n0 Z19 Fb Fp f18 f17) (by rw [hml]; rfl) [] [] rfl (lenOf own_pd3 rfl) rfl (Nat.le_of_eq rfl) (by decide) (by decide) (by decide) (by decide) rfl (hb hby at_136) fun T27 v27 Lc27 X27 hQ27 => ?_
        obtain ⟨rfl, Nq27, eh27⟩ := hQ27
        have N27 := Fr.app N20 Nq27
        show Ends p.tables e below (T27.setTop (mkF m 139 #[.val (.int p1), .val (.int p2), .val (.int p3), .val (.int n), .val (.int (0 : Int32)), .val (.ref ba), .val (.ref ob), .val (.int (1 : Int32)), .unset, .unset] [(.int (if (0 : Int32) < n then 1 else 0))])) _
        have hr28 : (if (0 : Int32) < n then (1 : Int32) else 0) = 1 := by rw [pk]; simp only [hkn, if_true, if_false]
        rw [hr28]
        refine s_istore (pc' := 141) X27.here hx (l' := #[.val (.int p1), .val (.int p2), .val (.int p3), .val (.int n), .val (.int (0 : Int32)), .val (.ref ba), .val (.ref ob), .val (.int (1 : Int32)), .val (.int (1 : Int32)), .unset]) (hb hby at_139) rfl rfl ?_
        refine s_aload (pc' := 143) X27.here hx (hb hby at_141) rfl rfl rfl ?_
        refine s_callV (pc' := 146) (W := 0) X27 hx hZ  hown (hw _ (List.mem_of_getElem? (i := 13) rfl)) (hw _ (List.mem_of_getElem? (i := 14) rfl)) (hw _ (List.mem_of_getElem? (i := 4) rfl)) (hw _ (List.mem_of_getElem? (i := 17) rfl)) (hw _ (List.mem_of_getElem? (i := 16) rfl)) (hw _ (List.mem_of_getElem? (i := 15) rfl)) (by decide) eh27 f18 (own_rm3 l Z a0 hw [] ob ba ka1 n vl (0 : Int32) T16.heap n0 Z19 Fb Fp f18 f17) (by rw [hml]; rfl) [] [] rfl (lenOf own_pd3 rfl) rfl (Nat.le_of_eq rfl) (by decide) (by decide) (by decide) (by decide) rfl (hb hby at_143) fun T29 v29 Lc29 X29 hQ29 => ?_
        obtain ⟨rfl, Nq29, eh29⟩ := hQ29
        have N29 := Fr.app N27 Nq29
        show Ends p.tables e below (T29.setTop (mkF m 146 #[.val (.int p1), .val (.int p2), .val (.int p3), .val (.int n), .val (.int (0 : Int32)), .val (.ref ba), .val (.ref ob), .val (.int (1 : Int32)), .val (.int (1 : Int32)), .unset] [(.int (if (0 : Int32) < n then 1 else 0))])) _
        have hr30 : (if (0 : Int32) < n then (1 : Int32) else 0) = 1 := by rw [pk]; simp only [hkn, if_true, if_false]
        rw [hr30]
        refine s_istore (pc' := 148) X29.here hx (l' := #[.val (.int p1), .val (.int p2), .val (.int p3), .val (.int n), .val (.int (0 : Int32)), .val (.ref ba), .val (.ref ob), .val (.int (1 : Int32)), .val (.int (1 : Int32)), .val (.int (1 : Int32))]) (hb hby at_146) rfl rfl ?_
        refine s_iload (pc' := 150) X29.here hx (hb hby at_148) rfl rfl ?_
        refine s_iload (pc' := 152) X29.here hx (hb hby at_150) rfl rfl ?_
        refine s_iloadN (pc' := 153) X29.here hx (hb hby at_152) rfl rfl ?_
        refine s_icmpNo (pc' := 156) X29.here hx (hb hby at_153) (tlt hkn).2.1 rfl ?_
        refine s_iconst (pc' := 157) X29.here hx (v := (1 : Int32)) (hb hby at_156) rfl rfl ?_
        refine s_goto (pc' := 161) X29.here hx (hb hby at_157) (by decide) (by decide) ?_
        have hk31 : (1 : Int32) = (1 : Int32) := rfl
        refine s_icmpNo (pc' := 164) X29.here hx (hb hby at_161) (teq hk31).2 rfl ?_
        refine s_iload (pc' := 166) X29.here hx (hb hby at_164) rfl rfl ?_
        refine s_iload (pc' := 168) X29.here hx (hb hby at_166) rfl rfl ?_
        have hk32 : (1 : Int32) = (1 : Int32) := rfl
        refine s_icmpNo (pc' := 171) X29.here hx (hb hby at_168) (teq hk32).2 rfl ?_
        refine s_iconst (pc' := 172) X29.here hx (v := (1 : Int32)) (hb hby at_171) rfl rfl ?_
        refine s_goto (pc' := 176) X29.here hx (hb hby at_172) (by decide) (by decide) ?_
        obtain ⟨fs, hr, hrun, hended, hW, hsame⟩ := X29.leave (v := some (.int (1 : Int32))) (fun h => by rw [Bd.returns] at h; cases h)
        refine ⟨_, _, retN X29 hx (t := .boolean) Bd.returns (by simp) (hb hby at_176) hr, hrun, hended, _, _, rfl, ?_, ⟨_, rfl⟩, hW, hsame.mono (by decide) (by decide)⟩
        show own_rm0_Q Z p1 p2 p3 h0 n0 _ T29.heap _
        rw [eh29]
        exact ⟨rfl, N29⟩
      · refine s_callV (pc' := 139) (W := 0) X20 hx hZ  hown (hw _ (List.mem_of_getElem? (i := 13) rfl)) (hw _ (List.mem_of_getElem? (i := 14) rfl)) (hw _ (List.mem_of_getElem? (i := 4) rfl)) (hw _ (List.mem_of_getElem? (i := 17) rfl)) (hw _ (List.mem_of_getElem? (i := 16) rfl)) (hw _ (List.mem_of_getElem? (i := 15) rfl)) (by decide) eh20 f18 (own_rm3 l Z a0 hw [] ob ba ka1 n vl (0 : Int32) T16.heap n0 Z19 Fb Fp f18 f17) (by rw [hml]; rfl) [] [] rfl (lenOf own_pd3 rfl) rfl (Nat.le_of_eq rfl) (by decide) (by decide) (by decide) (by decide) rfl (hb hby at_136) fun T33 v33 Lc33 X33 hQ33 => ?_
        obtain ⟨rfl, Nq33, eh33⟩ := hQ33
        have N33 := Fr.app N20 Nq33
        show Ends p.tables e below (T33.setTop (mkF m 139 #[.val (.int p1), .val (.int p2), .val (.int p3), .val (.int n), .val (.int (0 : Int32)), .val (.ref ba), .val (.ref ob), .val (.int (1 : Int32)), .unset, .unset] [(.int (if (0 : Int32) < n then 1 else 0))])) _
        have hr34 : (if (0 : Int32) < n then (1 : Int32) else 0) = 0 := by rw [pk]; simp only [hkn, if_true, if_false]
        rw [hr34]
        refine s_istore (pc' := 141) X33.here hx (l' := #[.val (.int p1), .val (.int p2), .val (.int p3), .val (.int n), .val (.int (0 : Int32)), .val (.ref ba), .val (.ref ob), .val (.int (1 : Int32)), .val (.int (0 : Int32)), .unset]) (hb hby at_139) rfl rfl ?_
        refine s_aload (pc' := 143) X33.here hx (hb hby at_141) rfl rfl rfl ?_
        refine s_callV (pc' := 146) (W := 0) X33 hx hZ  hown (hw _ (List.mem_of_getElem? (i := 13) rfl)) (hw _ (List.mem_of_getElem? (i := 14) rfl)) (hw _ (List.mem_of_getElem? (i := 4) rfl)) (hw _ (List.mem_of_getElem? (i := 17) rfl)) (hw _ (List.mem_of_getElem? (i := 16) rfl)) (hw _ (List.mem_of_getElem? (i := 15) rfl)) (by decide) eh33 f18 (own_rm3 l Z a0 hw [] ob ba ka1 n vl (0 : Int32) T16.heap n0 Z19 Fb Fp f18 f17) (by rw [hml]; rfl) [] [] rfl (lenOf own_pd3 rfl) rfl (Nat.le_of_eq rfl) (by decide) (by decide) (by decide) (by decide) rfl (hb hby at_143) fun T35 v35 Lc35 X35 hQ35 => ?_
        obtain ⟨rfl, Nq35, eh35⟩ := hQ35
        have N35 := Fr.app N33 Nq35
        show Ends p.tables e below (T35.setTop (mkF m 146 #[.val (.int p1), .val (.int p2), .val (.int p3), .val (.int n), .val (.int (0 : Int32)), .val (.ref ba), .val (.ref ob), .val (.int (1 : Int32)), .val (.int (0 : Int32)), .unset] [(.int (if (0 : Int32) < n then 1 else 0))])) _
        have hr36 : (if (0 : Int32) < n then (1 : Int32) else 0) = 0 := by rw [pk]; simp only [hkn, if_true, if_false]
        rw [hr36]
        refine s_istore (pc' := 148) X35.here hx (l' := #[.val (.int p1), .val (.int p2), .val (.int p3), .val (.int n), .val (.int (0 : Int32)), .val (.ref ba), .val (.ref ob), .val (.int (1 : Int32)), .val (.int (0 : Int32)), .val (.int (0 : Int32))]) (hb hby at_146) rfl rfl ?_
        refine s_iload (pc' := 150) X35.here hx (hb hby at_148) rfl rfl ?_
        refine s_iload (pc' := 152) X35.here hx (hb hby at_150) rfl rfl ?_
        refine s_iloadN (pc' := 153) X35.here hx (hb hby at_152) rfl rfl ?_
        refine s_icmpYes (pc' := 160) X35.here hx (hb hby at_153) (flt hkn).2.1 (by decide) (by decide) ?_
        refine s_iconst (pc' := 161) X35.here hx (v := (0 : Int32)) (hb hby at_160) rfl rfl ?_
        have hk37 : (0 : Int32) = (0 : Int32) := rfl
        refine s_icmpNo (pc' := 164) X35.here hx (hb hby at_161) (teq hk37).2 rfl ?_
        refine s_iload (pc' := 166) X35.here hx (hb hby at_164) rfl rfl ?_
        refine s_iload (pc' := 168) X35.here hx (hb hby at_166) rfl rfl ?_
        have hk38 : (0 : Int32) = (0 : Int32) := rfl
        refine s_icmpNo (pc' := 171) X35.here hx (hb hby at_168) (teq hk38).2 rfl ?_
        refine s_iconst (pc' := 172) X35.here hx (v := (1 : Int32)) (hb hby at_171) rfl rfl ?_
        refine s_goto (pc' := 176) X35.here hx (hb hby at_172) (by decide) (by decide) ?_
        obtain ⟨fs, hr, hrun, hended, hW, hsame⟩ := X35.leave (v := some (.int (1 : Int32))) (fun h => by rw [Bd.returns] at h; cases h)
        refine ⟨_, _, retN X35 hx (t := .boolean) Bd.returns (by simp) (hb hby at_176) hr, hrun, hended, _, _, rfl, ?_, ⟨_, rfl⟩, hW, hsame.mono (by decide) (by decide)⟩
        show own_rm0_Q Z p1 p2 p3 h0 n0 _ T35.heap _
        rw [eh35]
        exact ⟨rfl, N35⟩
    · subst hq_
      refine s_iload (pc' := 77) X20.here hx (hb hby at_75) rfl rfl ?_
      refine s_bipush (pc' := 79) X20.here hx (v := (8 : Int32)) (hb hby at_77) rfl rfl ?_
      refine s_iand (pc' := 80) X20.here hx (hb hby at_79) rfl ?_
      have hk39 : ((1 : Int32) &&& (8 : Int32)) = (0 : Int32) := by decide
      refine s_ifYes (pc' := 89) X20.here hx (hb hby at_80) ((if0 _ _).trans (teq hk39).1) (by decide) (by decide) ?_
      refine s_iload (pc' := 91) X20.here hx (hb hby at_89) rfl rfl ?_
      refine s_iconst (pc' := 92) X20.here hx (v := (4 : Int32)) (hb hby at_91) rfl rfl ?_
      refine s_iand (pc' := 93) X20.here hx (hb hby at_92) rfl ?_
      have hk40 : ((1 : Int32) &&& (4 : Int32)) = (0 : Int32) := by decide
      refine s_ifYes (pc' := 102) X20.here hx (hb hby at_93) ((if0 _ _).trans (teq hk40).1) (by decide) (by decide) ?_
      refine s_iload (pc' := 104) X20.here hx (hb hby at_102) rfl rfl ?_
      refine s_iconst (pc' := 105) X20.here hx (v := (2 : Int32)) (hb hby at_104) rfl rfl ?_
      refine s_iand (pc' := 106) X20.here hx (hb hby at_105) rfl ?_
      have hk41 : ((1 : Int32) &&& (2 : Int32)) = (0 : Int32) := by decide
      refine s_ifYes (pc' := 121) X20.here hx (hb hby at_106) ((if0 _ _).trans (teq hk41).1) (by decide) (by decide) ?_
      refine s_iload (pc' := 123) X20.here hx (hb hby at_121) rfl rfl ?_
      refine s_iconst (pc' := 124) X20.here hx (v := (1 : Int32)) (hb hby at_123) rfl rfl ?_
      refine s_iand (pc' := 125) X20.here hx (hb hby at_124) rfl ?_
      have hk42 : ¬ (((1 : Int32) &&& (1 : Int32)) = (0 : Int32)) := by decide
      refine s_ifNo (pc' := 128) X20.here hx (hb hby at_125) ((if0 _ _).trans (feq hk42).1) rfl ?_
      refine s_aload (pc' := 130) X20.here hx (hb hby at_128) rfl rfl rfl ?_
      refine s_callV (pc' := 133) (W := 0) X20 hx hZ  hown (hw _ (List.mem_of_getElem? (i := 33) rfl)) (hw _ (List.mem_of_getElem? (i := 34) rfl)) (hw _ (List.mem_of_getElem? (i := 4) rfl)) (hw _ (List.mem_of_getElem? (i := 37) rfl)) (hw _ (List.mem_of_getElem? (i := 36) rfl)) (hw _ (List.mem_of_getElem? (i := 35) rfl)) (by decide) eh20 f18 (own_rm7 l Z a0 hw [] ob ba ka1 n vl (0 : Int32) T16.heap n0 Z19 Fb Fp f18 f17 (by decide) n15 (by have q_ : ((0 : Int32)).toInt + 1 ≤ (1 : Int32).toInt := (by decide); omega) g_ob ne11) (by rw [hml]; rfl) [] [] rfl (lenOf own_pd4 rfl) rfl (Nat.le_of_eq rfl) (by decide) (by decide) (by decide) (by decide) rfl (hb hby at_130) fun T46 v46 Lc46 X46 hQ46 => ?_
      obtain ⟨r45, rfl, Nq46, Kq46, Fb43, Fp44⟩ := hQ46
      have N46 := Fr.app N20 Nq46
      have f47 := f17.keep Kq46 (ninS ne11 nin0)
      have f48 := f18.keep Kq46
      have Z49 : n0 ≤ T46.heap.size := Nat.le_trans Z19 Kq46.1
      show Ends p.tables e below (T46.setTop (mkF m 133 #[.val (.int p1), .val (.int p2), .val (.int p3), .val (.int n), .val (.int (1 : Int32)), .val (.ref ba), .val (.ref ob), .val (.int (1 : Int32)), .unset, .unset] [(.int r45)])) _
      refine s_pop (pc' := 134) X46.here hx (hb hby at_133) rfl rfl ?_
      refine s_aload (pc' := 136) X46.here hx (hb hby at_134) rfl rfl rfl ?_
      have pk : ((0 : Int32) + (1 : Int32)) = (1 : Int32) := by decide
      by_cases hkn : (1 : Int32) < n
      · refine s_callV (pc' := 139) (W := 0) X46 hx hZ  hown (hw _ (List.mem_of_getElem? (i := 13) rfl)) (hw _ (List.mem_of_getElem? (i := 14) rfl)) (hw _ (List.mem_of_getElem? (i := 4) rfl)) (hw _ (List.mem_of_getElem? (i := 17) rfl)) (hw _ (List.mem_of_getElem? (i := 16) rfl)) (hw _ (List.mem_of_getElem? (i := 15) rfl)) (by decide) rfl f48 (own_rm3 l Z a0 hw [] ob ba ka1 n vl ((0 : Int32) + (1 : Int32)) T46.heap n0 Z49 Fb43 Fp44 f48 f47) (by rw [hml]; rfl) [] [] rfl (lenOf own_pd3 rfl) rfl (Nat.le_of_eq rfl) (by decide) (by decide) (by decide) (by decide) rfl (hb hby at_136) fun T50 v50 Lc50 X50 hQ50 => ?_
        obtain ⟨rfl, Nq50, eh50⟩ := hQ50
        have N50 := Fr.app N46 Nq50
        show Ends p.tables e below (T50.setTop (mkF m 139 #[.val (.int p1), .val (.int p2), .val (.int p3), .val (.int n), .val (.int (1 : Int32)), .val (.ref ba), .val (.ref ob), .val (.int (1 : Int32)), .unset, .unset] [(.int (if ((0 : Int32) + (1 : Int32)) < n then 1 else 0))])) _
        have hr51 : (if ((0 : Int32) + (1 : Int32)) < n then (1 : Int32) else 0) = 1 := by rw [pk]; simp only [hkn, if_true, if_false]
        rw [hr51]
        refine s_istore (pc' := 141) X50.here hx (l' := #[.val (.int p1), .val (.int p2), .val (.int p3), .val (.int n), .val (.int (1 : Int32)), .val (.ref ba), .val (.ref ob), .val (.int (1 : Int32)), .val (.int (1 : Int32)), .unset]) (hb hby at_139) rfl rfl ?_
        refine s_aload (pc' := 143) X50.here hx (hb hby at_141) rfl rfl rfl ?_
        refine s_callV (pc' := 146) (W := 0) X50 hx hZ  hown (hw _ (List.mem_of_getElem? (i := 13) rfl)) (hw _ (List.mem_of_getElem? (i := 14) rfl)) (hw _ (List.mem_of_getElem? (i := 4) rfl)) (hw _ (List.mem_of_getElem? (i := 17) rfl)) (hw _ (List.mem_of_getElem? (i := 16) rfl)) (hw _ (List.mem_of_getElem? (i := 15) rfl)) (by decide) eh50 f48 (own_rm3 l Z a0 hw [] ob ba ka1 n vl ((0 : Int32) + (1 : Int32)) T46.heap n0 Z49 Fb43 Fp44 f48 f47) (by rw [hml]; rfl) [] [] rfl (lenOf own_pd3 rfl) rfl (Nat.le_of_eq rfl) (by decide) (by decide) (by decide) (by decide) rfl (hb hby at_143) fun T52 v52 Lc52 X52 hQ52 => ?_
        obtain ⟨rfl, Nq52, eh52⟩ := hQ52
        have N52 := Fr.app N50 Nq52
        show Ends p.tables e below (T52.setTop (mkF m 146 #[.val (.int p1), .val (.int p2), .val (.int p3), .val (.int n), .val (.int (1 : Int32)), .val (.ref ba), .val (.ref ob), .val (.int (1 : Int32)), .val (.int (1 : Int32)), .unset] [(.int (if ((0 : Int32) + (1 : Int32)) < n then 1 else 0))])) _
        have hr53 : (if ((0 : Int32) + (1 : Int32)) < n then (1 : Int32) else 0) = 1 := by rw [pk]; simp only [hkn, if_true, if_false]
        rw [hr53]
        refine s_istore (pc' := 148) X52.here hx (l' := #[.val (.int p1), .val (.int p2), .val (.int p3), .val (.int n), .val (.int (1 : Int32)), .val (.ref ba), .val (.ref ob), .val (.int (1 : Int32)), .val (.int (1 : Int32)), .val (.int (1 : Int32))]) (hb hby at_146) rfl rfl ?_
        refine s_iload (pc' := 150) X52.here hx (hb hby at_148) rfl rfl ?_
        refine s_iload (pc' := 152) X52.here hx (hb hby at_150) rfl rfl ?_
        refine s_iloadN (pc' := 153) X52.here hx (hb hby at_152) rfl rfl ?_
        refine s_icmpNo (pc' := 156) X52.here hx (hb hby at_153) (tlt hkn).2.1 rfl ?_
        refine s_iconst (pc' := 157) X52.here hx (v := (1 : Int32)) (hb hby at_156) rfl rfl ?_
        refine s_goto (pc' := 161) X52.here hx (hb hby at_157) (by decide) (by decide) ?_
        have hk54 : (1 : Int32) = (1 : Int32) := rfl
        refine s_icmpNo (pc' := 164) X52.here hx (hb hby at_161) (teq hk54).2 rfl ?_
        refine s_iload (pc' := 166) X52.here hx (hb hby at_164) rfl rfl ?_
        refine s_iload (pc' := 168) X52.here hx (hb hby at_166) rfl rfl ?_
        have hk55 : (1 : Int32) = (1 : Int32) := rfl
        refine s_icmpNo (pc' := 171) X52.here hx (hb hby at_168) (teq hk55).2 rfl ?_
        refine s_iconst (pc' := 172) X52.here hx (v := (1 : Int32)) (hb hby at_171) rfl rfl ?_
        refine s_goto (pc' := 176) X52.here hx (hb hby at_172) (by decide) (by decide) ?_
        obtain ⟨fs, hr, hrun, hended, hW, hsame⟩ := X52.leave (v := some (.int (1 : Int32))) (fun h => by rw [Bd.returns] at h; cases h)
        refine ⟨_, _, retN X52 hx (t := .boolean) Bd.returns (by simp) (hb hby at_176) hr, hrun, hended, _, _, rfl, ?_, ⟨_, rfl⟩, hW, hsame.mono (by decide) (by decide)⟩
        show own_rm0_Q Z p1 p2 p3 h0 n0 _ T52.heap _
        rw [eh52]
        exact ⟨rfl, N52⟩
      · refine s_callV (pc' := 139) (W := 0) X46 hx hZ  hown (hw _ (List.mem_of_getElem? (i := 13) rfl)) (hw _ (List.mem_of_getElem? (i := 14) rfl)) (hw _ (List.mem_of_getElem? (i := 4) rfl)) (hw _ (List.mem_of_getElem? (i := 17) rfl)) (hw _ (List.mem_of_getElem? (i := 16) rfl)) (hw _ (List.mem_of_getElem? (i := 15) rfl)) (by decide) rfl f48 (own_rm3 l Z a0 hw [] ob ba ka1 n vl ((0 : Int32) + (1 : Int32)) T46.heap n0 Z49 Fb43 Fp44 f48 f47) (by rw [hml]; rfl) [] [] rfl (lenOf own_pd3 rfl) rfl (Nat.le_of_eq rfl) (by decide) (by decide) (by decide) (by decide) rfl (hb hby at_136) fun T56 v56 Lc56 X56 hQ56 => ?_
        obtain ⟨rfl, Nq56, eh56⟩ := hQ56
        have N56 := Fr.app N46 Nq56
        show Ends p.tables e below (T56.setTop (mkF m 139 #[.val (.int p1), .val (.int p2), .val (.int p3), .val (.int n), .val (.int (1 : Int32)), .val (.ref ba), .val (.ref ob), .val (.int (1 : Int32)), .unset, .unset] [(.int (if ((0 : Int32) + (1 : Int32)) < n then 1 else 0))])) _
        have hr57 : (if ((0 : Int32) + (1 : Int32)) < n then (1 : Int32) else 0) = 0 := by rw [pk]; simp only [hkn, if_true, if_false]
        rw [hr57]
        refine s_istore (pc' := 141) X56.here hx (l' := #[.val (.int p1), .val (.int p2), .val (.int p3), .val (.int n), .val (.int (1 : Int32)), .val (.ref ba), .val (.ref ob), .val (.int (1 : Int32)), .val (.int (0 : Int32)), .unset]) (hb hby at_139) rfl rfl ?_
        refine s_aload (pc' := 143) X56.here hx (hb hby at_141) rfl rfl rfl ?_
        refine s_callV (pc' := 146) (W := 0) X56 hx hZ  hown (hw _ (List.mem_of_getElem? (i := 13) rfl)) (hw _ (List.mem_of_getElem? (i := 14) rfl)) (hw _ (List.mem_of_getElem? (i := 4) rfl)) (hw _ (List.mem_of_getElem? (i := 17) rfl)) (hw _ (List.mem_of_getElem? (i := 16) rfl)) (hw _ (List.mem_of_getElem? (i := 15) rfl)) (by decide) eh56 f48 (own_rm3 l Z a0 hw [] ob ba ka1 n vl ((0 : Int32) + (1 : Int32)) T46.heap n0 Z49 Fb43 Fp44 f48 f47) (by rw [hml]; rfl) [] [] rfl (lenOf own_pd3 rfl) rfl (Nat.le_of_eq rfl) (by decide) (by decide) (by decide) (by decide) rfl (hb hby at_143) fun T58 v58 Lc58 X58 hQ58 => ?_
        obtain ⟨rfl, Nq58, eh58⟩ := hQ58
        have N58 := Fr.app N56 Nq58
        show Ends p.tables e below (T58.setTop (mkF m 146 #[.val (.int p1), .val (.int p2), .val (.int p3), .val (.int n), .val (.int (1 : Int32)), .val (.ref ba), .val (.ref ob), .val (.int (1 : Int32)), .val (.int (0 : Int32)), .unset] [(.int (if ((0 : Int32) + (1 : Int32)) < n then 1 else 0))])) _
        have hr59 : (if ((0 : Int32) + (1 : Int32)) < n then (1 : Int32) else 0) = 0 := by rw [pk]; simp only [hkn, if_true, if_false]
        rw [hr59]
        refine s_istore (pc' := 148) X58.here hx (l' := #[.val (.int p1), .val (.int p2), .val (.int p3), .val (.int n), .val (.int (1 : Int32)), .val (.ref ba), .val (.ref ob), .val (.int (1 : Int32)), .val (.int (0 : Int32)), .val (.int (0 : Int32))]) (hb hby at_146) rfl rfl ?_
        refine s_iload (pc' := 150) X58.here hx (hb hby at_148) rfl rfl ?_
        refine s_iload (pc' := 152) X58.here hx (hb hby at_150) rfl rfl ?_
        refine s_iloadN (pc' := 153) X58.here hx (hb hby at_152) rfl rfl ?_
        refine s_icmpYes (pc' := 160) X58.here hx (hb hby at_153) (flt hkn).2.1 (by decide) (by decide) ?_
        refine s_iconst (pc' := 161) X58.here hx (v := (0 : Int32)) (hb hby at_160) rfl rfl ?_
        have hk60 : (0 : Int32) = (0 : Int32) := rfl
        refine s_icmpNo (pc' := 164) X58.here hx (hb hby at_161) (teq hk60).2 rfl ?_
        refine s_iload (pc' := 166) X58.here hx (hb hby at_164) rfl rfl ?_
        refine s_iload (pc' := 168) X58.here hx (hb hby at_166) rfl rfl ?_
        have hk61 : (0 : Int32) = (0 : Int32) := rfl
        refine s_icmpNo (pc' := 171) X58.here hx (hb hby at_168) (teq hk61).2 rfl ?_
        refine s_iconst (pc' := 172) X58.here hx (v := (1 : Int32)) (hb hby at_171) rfl rfl ?_
        refine s_goto (pc' := 176) X58.here hx (hb hby at_172) (by decide) (by decide) ?_
        obtain ⟨fs, hr, hrun, hended, hW, hsame⟩ := X58.leave (v := some (.int (1 : Int32))) (fun h => by rw [Bd.returns] at h; cases h)
        refine ⟨_, _, retN X58 hx (t := .boolean) Bd.returns (by simp) (hb hby at_176) hr, hrun, hended, _, _, rfl, ?_, ⟨_, rfl⟩, hW, hsame.mono (by decide) (by decide)⟩
        show own_rm0_Q Z p1 p2 p3 h0 n0 _ T58.heap _
        rw [eh58]
        exact ⟨rfl, N58⟩
    · subst hq_
      refine s_iload (pc' := 77) X20.here hx (hb hby at_75) rfl rfl ?_
      refine s_bipush (pc' := 79) X20.here hx (v := (8 : Int32)) (hb hby at_77) rfl rfl ?_
      refine s_iand (pc' := 80) X20.here hx (hb hby at_79) rfl ?_
      have hk62 : ((2 : Int32) &&& (8 : Int32)) = (0 : Int32) := by decide
      refine s_ifYes (pc' := 89) X20.here hx (hb hby at_80) ((if0 _ _).trans (teq hk62).1) (by decide) (by decide) ?_
      refine s_iload (pc' := 91) X20.here hx (hb hby at_89) rfl rfl ?_
      refine s_iconst (pc' := 92) X20.here hx (v := (4 : Int32)) (hb hby at_91) rfl rfl ?_
      refine s_iand (pc' := 93) X20.here hx (hb hby at_92) rfl ?_
      have hk63 : ((2 : Int32) &&& (4 : Int32)) = (0 : Int32) := by decide
      refine s_ifYes (pc' := 102) X20.here hx (hb hby at_93) ((if0 _ _).trans (teq hk63).1) (by decide) (by decide) ?_
      refine s_iload (pc' := 104) X20.here hx (hb hby at_102) rfl rfl ?_
      refine s_iconst (pc' := 105) X20.here hx (v := (2 : Int32)) (hb hby at_104) rfl rfl ?_
      refine s_iand (pc' := 106) X20.here hx (hb hby at_105) rfl ?_
      have hk64 : ¬ (((2 : Int32) &&& (2 : Int32)) = (0 : Int32)) := by decide
      refine s_ifNo (pc' := 109) X20.here hx (hb hby at_106) ((if0 _ _).trans (feq hk64).1) rfl ?_
      refine s_aload (pc' := 111) X20.here hx (hb hby at_109) rfl rfl rfl ?_
      refine s_callV (pc' := 114) (W := 0) X20 hx hZ  hown (hw _ (List.mem_of_getElem? (i := 33) rfl)) (hw _ (List.mem_of_getElem? (i := 34) rfl)) (hw _ (List.mem_of_getElem? (i := 4) rfl)) (hw _ (List.mem_of_getElem? (i := 37) rfl)) (hw _ (List.mem_of_getElem? (i := 36) rfl)) (hw _ (List.mem_of_getElem? (i := 35) rfl)) (by decide) eh20 f18 (own_rm7 l Z a0 hw [] ob ba ka1 n vl (0 : Int32) T16.heap n0 Z19 Fb Fp f18 f17 (by decide) n15 (by have q_ : ((0 : Int32)).toInt + 1 ≤ (2 : Int32).toInt := (by decide); omega) g_ob ne11) (by rw [hml]; rfl) [] [] rfl (lenOf own_pd4 rfl) rfl (Nat.le_of_eq rfl) (by decide) (by decide) (by decide) (by decide) rfl (hb hby at_111) fun T68 v68 Lc68 X68 hQ68 => ?_
      obtain ⟨r67, rfl, Nq68, Kq68, Fb65, Fp66⟩ := hQ68
      have N68 := Fr.app N20 Nq68
      have f69 := f17.keep Kq68 (ninS ne11 nin0)
      have f70 := f18.keep Kq68
      have Z71 : n0 ≤ T68.heap.size := Nat.le_trans Z19 Kq68.1
      show Ends p.tables e below (T68.setTop (mkF m 114 #[.val (.int p1), .val (.int p2), .val (.int p3), .val (.int n), .val (.int (2 : Int32)), .val (.ref ba), .val (.ref ob), .val (.int (1 : Int32)), .unset, .unset] [(.int r67)])) _
      refine s_pop (pc' := 115) X68.here hx (hb hby at_114) rfl rfl ?_
      refine s_aload (pc' := 117) X68.here hx (hb hby at_115) rfl rfl rfl ?_
      refine s_callV (pc' := 120) (W := 0) X68 hx hZ  hown (hw _ (List.mem_of_getElem? (i := 33) rfl)) (hw _ (List.mem_of_getElem? (i := 34) rfl)) (hw _ (List.mem_of_getElem? (i := 4) rfl)) (hw _ (List.mem_of_getElem? (i := 37) rfl)) (hw _ (List.mem_of_getElem? (i := 36) rfl)) (hw _ (List.mem_of_getElem? (i := 35) rfl)) (by decide) rfl f70 (own_rm7 l Z a0 hw [] ob ba ka1 n vl ((0 : Int32) + (1 : Int32)) T68.heap n0 Z71 Fb65 Fp66 f70 f69 (by decide) n15 (by have q_ : (((0 : Int32) + (1 : Int32))).toInt + 1 ≤ (2 : Int32).toInt := (by decide); omega) g_ob ne11) (by rw [hml]; rfl) [] [] rfl (lenOf own_pd4 rfl) rfl (Nat.le_of_eq rfl) (by decide) (by decide) (by decide) (by decide) rfl (hb hby at_117) fun T75 v75 Lc75 X75 hQ75 => ?_
      obtain ⟨r74, rfl, Nq75, Kq75, Fb72, Fp73⟩ := hQ75
      have N75 := Fr.app N68 Nq75
      have f76 := f69.keep Kq75 (ninS ne11 nin0)
      have f77 := f70.keep Kq75
      have Z78 : n0 ≤ T75.heap.size := Nat.le_trans Z71 Kq75.1
      show Ends p.tables e below (T75.setTop (mkF m 120 #[.val (.int p1), .val (.int p2), .val (.int p3), .val (.int n), .val (.int (2 : Int32)), .val (.ref ba), .val (.ref ob), .val (.int (1 : Int32)), .unset, .unset] [(.int r74)])) _
      refine s_pop (pc' := 121) X75.here hx (hb hby at_120) rfl rfl ?_
      refine s_iload (pc' := 123) X75.here hx (hb hby at_121) rfl rfl ?_
      refine s_iconst (pc' := 124) X75.here hx (v := (1 : Int32)) (hb hby at_123) rfl rfl ?_
      refine s_iand (pc' := 125) X75.here hx (hb hby at_124) rfl ?_
      have hk79 : ((2 : Int32) &&& (1 : Int32)) = (0 : Int32) := by decide
      refine s_ifYes (pc' := 134) X75.here hx (hb hby at_125) ((if0 _ _).trans (teq hk79).1) (by decide) (by decide) ?_
      refine s_aload (pc' := 136) X75.here hx (hb hby at_134) rfl rfl rfl ?_
      have pk : (((0 : Int32) + (1 : Int32)) + (1 : Int32)) = (2 : Int32) := by decide
      by_cases hkn : (2 : Int32) < n
      · refine s_callV (pc' := 139) (W := 0) X75 hx hZ  hown (hw _ (List.mem_of_getElem? (i := 13) rfl)) (hw _ (List.mem_of_getElem? (i := 14) rfl)) (hw _ (List.mem_of_getElem? (i := 4) rfl)) (hw _ (List.mem_of_getElem? (i := 17) rfl)) (hw _ (List.mem_of_getElem? (i := 16) rfl)) (hw _ (List.mem_of_getElem? (i := 15) rfl)) (by decide) rfl f77 (own_rm3 l Z a0 hw [] ob ba ka1 n vl (((0 : Int32) + (1 : Int32)) + (1 : Int32)) T75.heap n0 Z78 Fb72 Fp73 f77 f76) (by rw [hml]; rfl) [] [] rfl (lenOf own_pd3 rfl) rfl (Nat.le_of_eq rfl) (by decide) (by decide) (by decide) (by decide) rfl (hb hby at_136) fun T80 v80 Lc80 X80 hQ80 => ?_
        obtain ⟨rfl, Nq80, eh80⟩ := hQ80
        have N80 := Fr.app N75 Nq80
        show Ends p.tables e below (T80.setTop (mkF m 139 #[.val (.int p1), .val (.int p2), .val (.int p3), .val (.int n), .val (.int (2 : Int32)), .val (.ref ba), .val (.ref ob), .val (.int (1 : Int32)), .unset, .unset] [(.int (if (((0 : Int32) + (1 : Int32)) + (1 : Int32)) < n then 1 else 0))])) _
        have hr81 : (if (((0 : Int32) + (1 : Int32)) + (1 : Int32)) < n then (1 : Int32) else 0) = 1 := by rw [pk]; simp only [hkn, if_true, if_false]
        rw [hr81]
        refine s_istore (pc' := 141) X80.here hx (l' := #[.val (.int p1), .val (.int p2), .val (.int p3), .val (.int n), .val (.int (2 : Int32)), .val (.ref ba), .val (.ref ob), .val (.int (1 : Int32)), .val (.int (1 : Int32)), .unset]) (hb hby at_139) rfl rfl ?_
        refine s_aload (pc' := 143) X80.here hx (hb hby at_141) rfl rfl rfl ?_
        refine s_callV (pc' := 146) (W := 0) X80 hx hZ  hown (hw _ (List.mem_of_getElem? (i := 13) rfl)) (hw _ (List.mem_of_getElem? (i := 14) rfl)) (hw _ (List.mem_of_getElem? (i := 4) rfl)) (hw _ (List.mem_of_getElem? (i := 17) rfl)) (hw _ (List.mem_of_getElem? (i := 16) rfl)) (hw _ (List.mem_of_getElem? (i := 15) rfl)) (by decide) eh80 f77 (own_rm3 l Z a0 hw [] ob ba ka1 n vl (((0 : Int32) + (1 : Int32)) + (1 : Int32)) T75.heap n0 Z78 Fb72 Fp73 f77 f76) (by rw [hml]; rfl) [] [] rfl (lenOf own_pd3 rfl) rfl (Nat.le_of_eq rfl) (by decide) (by decide) (by decide) (by decide) rfl (hb hby at_143) fun T82 v82 Lc82 X82 hQ82 => ?_
        obtain ⟨rfl, Nq82, eh82⟩ := hQ82
        have N82 := Fr.app N80 Nq82
        show Ends p.tables e below (T82.setTop (mkF m 146 #[.val (.int p1), .val (.int p2), .val (.int p3), .val (.int n), .val (.int (2 : Int32)), .val (.ref ba), .val (.ref ob), .val (.int (1 : Int32)), .val (.int (1 : Int32)), .unset] [(.int (if (((0 : Int32) + (1 : Int32)) + (1 : Int32)) < n then 1 else 0))])) _
        have hr83 : (if (((0 : Int32) + (1 : Int32)) + (1 : Int32)) < n then (1 : Int32) else 0) = 1 := by rw [pk]; simp only [hkn, if_true, if_false]
        rw [hr83]
        refine s_istore (pc' := 148) X82.here hx (l' := #[.val (.int p1), .val (.int p2), .val (.int p3), .val (.int n), .val (.int (2 : Int32)), .val (.ref ba), .val (.ref ob), .val (.int (1 : Int32)), .val (.int (1 : Int32)), .val (.int (1 : Int32))]) (hb hby at_146) rfl rfl ?_
        refine s_iload (pc' := 150) X82.here hx (hb hby at_148) rfl rfl ?_
        refine s_iload (pc' := 152) X82.here hx (hb hby at_150) rfl rfl ?_
        refine s_iloadN (pc' := 153) X82.here hx (hb hby at_152) rfl rfl ?_
        refine s_icmpNo (pc' := 156) X82.here hx (hb hby at_153) (tlt hkn).2.1 rfl ?_
        refine s_iconst (pc' := 157) X82.here hx (v := (1 : Int32)) (hb hby at_156) rfl rfl ?_
        refine s_goto (pc' := 161) X82.here hx (hb hby at_157) (by decide) (by decide) ?_
        have hk84 : (1 : Int32) = (1 : Int32) := rfl
        refine s_icmpNo (pc' := 164) X82.here hx (hb hby at_161) (teq hk84).2 rfl ?_
        refine s_iload (pc' := 166) X82.here hx (hb hby at_164) rfl rfl ?_
        refine s_iload (pc' := 168) X82.here hx (hb hby at_166) rfl rfl ?_
        have hk85 : (1 : Int32) = (1 : Int32) := rfl
        refine s_icmpNo (pc' := 171) X82.here hx (hb hby at_168) (teq hk85).2 rfl ?_
        refine s_iconst (pc' := 172) X82.here hx (v := (1 : Int32)) (hb hby at_171) rfl rfl ?_
        refine s_goto (pc' := 176) X82.here hx (hb hby at_172) (by decide) (by decide) ?_
        obtain ⟨fs, hr, hrun, hended, hW, hsame⟩ := X82.leave (v := some (.int (1 : Int32))) (fun h => by rw [Bd.returns] at h; cases h)
        refine ⟨_, _, retN X82 hx (t := .boolean) Bd.returns (by simp) (hb hby at_176) hr, hrun, hended, _, _, rfl, ?_, ⟨_, rfl⟩, hW, hsame.mono (by decide) (by decide)⟩
        show own_rm0_Q Z p1 p2 p3 h0 n0 _ T82.heap _
        rw [eh82]
        exact ⟨rfl, N82⟩
      · refine s_callV (pc' := 139) (W := 0) X75 hx hZ  hown (hw _ (List.mem_of_getElem? (i := 13) rfl)) (hw _ (List.mem_of_getElem? (i := 14) rfl)) (hw _ (List.mem_of_getElem? (i := 4) rfl)) (hw _ (List.mem_of_getElem? (i := 17) rfl)) (hw _ (List.mem_of_getElem? (i := 16) rfl)) (hw _ (List.mem_of_getElem? (i := 15) rfl)) (by decide) rfl f77 (own_rm3 l Z a0 hw [] ob ba ka1 n vl (((0 : Int32) + (1 : Int32)) + (1 : Int32)) T75.heap n0 Z78 Fb72 Fp73 f77 f76) (by rw [hml]; rfl) [] [] rfl (lenOf own_pd3 rfl) rfl (Nat.le_of_eq rfl) (by decide) (by decide) (by decide) (by decide) rfl (hb hby at_136) fun T86 v86 Lc86 X86 hQ86 => ?_
        obtain ⟨rfl, Nq86, eh86⟩ := hQ86
        have N86 := Fr.app N75 Nq86
        show Ends p.tables e below (T86.setTop (mkF m 139 #[.val (.int p1), .val (.int p2), .val (.int p3), .val (.int n), .val (.int (2 : Int32)), .val (.ref ba), .val (.ref ob), .val (.int (1 : Int32)), .unset, .unset] [(.int (if (((0 : Int32) + (1 : Int32)) + (1 : Int32)) < n then 1 else 0))])) _
        have hr87 : (if (((0 : Int32) + (1 : Int32)) + (1 : Int32)) < n then (1 : Int32) else 0) = 0 := by rw [pk]; simp only [hkn, if_true, if_false]
        rw [hr87]
        refine s_istore (pc' := 141) X86.here hx (l' := #[.val (.int p1), .val (.int p2), .val (.int p3), .val (.int n), .val (.int (2 : Int32)), .val (.ref ba), .val (.ref ob), .val (.int (1 : Int32)), .val (.int (0 : Int32)), .unset]) (hb hby at_139) rfl rfl ?_
        refine s_aload (pc' := 143) X86.here hx (hb hby at_141) rfl rfl rfl ?_
        refine s_callV (pc' := 146) (W := 0) X86 hx hZ  hown (hw _ (List.mem_of_getElem? (i := 13) rfl)) (hw _ (List.mem_of_getElem? (i := 14) rfl)) (hw _ (List.mem_of_getElem? (i := 4) rfl)) (hw _ (List.mem_of_getElem? (i := 17) rfl)) (hw _ (List.mem_of_getElem? (i := 16) rfl)) (hw _ (List.mem_of_getElem? (i := 15) rfl)) (by decide) eh86 f77 (own_rm3 l Z a0 hw [] ob ba ka1 n vl (((0 : Int32) + (1 : Int32)) + (1 : Int32)) T75.heap n0 Z78 Fb72 Fp73 f77 f76) (by rw [hml]; rfl) [] [] rfl (lenOf own_pd3 rfl) rfl (Nat.le_of_eq rfl) (by decide) (by decide) (by decide) (by decide) rfl (hb hby at_143) fun T88 v88 Lc88 X88 hQ88 => ?_
        obtain ⟨rfl, Nq88, eh88⟩ := hQ88
        have N88 := Fr.app N86 Nq88
        show Ends p.tables e below (T88.setTop (mkF m 146 #[.val (.int p1), .val (.int p2), .val (.int p3), .val (.int n), .val (.int (2 : Int32)), .val (.ref ba), .val (.ref ob), .val (.int (1 : Int32)), .val (.int (0 : Int32)), .unset] [(.int (if (((0 : Int32) + (1 : Int32)) + (1 : Int32)) < n then 1 else 0))])) _
        have hr89 : (if (((0 : Int32) + (1 : Int32)) + (1 : Int32)) < n then (1 : Int32) else 0) = 0 := by rw [pk]; simp only [hkn, if_true, if_false]
        rw [hr89]
        refine s_istore (pc' := 148) X88.here hx (l' := #[.val (.int p1), .val (.int p2), .val (.int p3), .val (.int n), .val (.int (2 : Int32)), .val (.ref ba), .val (.ref ob), .val (.int (1 : Int32)), .val (.int (0 : Int32)), .val (.int (0 : Int32))]) (hb hby at_146) rfl rfl ?_
        refine s_iload (pc' := 150) X88.here hx (hb hby at_148) rfl rfl ?_
        refine s_iload (pc' := 152) X88.here hx (hb hby at_150) rfl rfl ?_
        refine s_iloadN (pc' := 153) X88.here hx (hb hby at_152) rfl rfl ?_
        refine s_icmpYes (pc' := 160) X88.here hx (hb hby at_153) (flt hkn).2.1 (by decide) (by decide) ?_
        refine s_iconst (pc' := 161) X88.here hx (v := (0 : Int32)) (hb hby at_160) rfl rfl ?_
        have hk90 : (0 : Int32) = (0 : Int32) := rfl
        refine s_icmpNo (pc' := 164) X88.here hx (hb hby at_161) (teq hk90).2 rfl ?_
        refine s_iload (pc' := 166) X88.here hx (hb hby at_164) rfl rfl ?_
        refine s_iload (pc' := 168) X88.here hx (hb hby at_166) rfl rfl ?_
        have hk91 : (0 : Int32) = (0 : Int32) := rfl
        refine s_icmpNo (pc' := 171) X88.here hx (hb hby at_168) (teq hk91).2 rfl ?_
        refine s_iconst (pc' := 172) X88.here hx (v := (1 : Int32)) (hb hby at_171) rfl rfl ?_
        refine s_goto (pc' := 176) X88.here hx (hb hby at_172) (by decide) (by decide) ?_
        obtain ⟨fs, hr, hrun, hended, hW, hsame⟩ := X88.leave (v := some (.int (1 : Int32))) (fun h => by rw [Bd.returns] at h; cases h)
        refine ⟨_, _, retN X88 hx (t := .boolean) Bd.returns (by simp) (hb hby at_176) hr, hrun, hended, _, _, rfl, ?_, ⟨_, rfl⟩, hW, hsame.mono (by decide) (by decide)⟩
        show own_rm0_Q Z p1 p2 p3 h0 n0 _ T88.heap _
        rw [eh88]
        exact ⟨rfl, N88⟩
    · subst hq_
      refine s_iload (pc' := 77) X20.here hx (hb hby at_75) rfl rfl ?_
      refine s_bipush (pc' := 79) X20.here hx (v := (8 : Int32)) (hb hby at_77) rfl rfl ?_
      refine s_iand (pc' := 80) X20.here hx (hb hby at_79) rfl ?_
      have hk92 : ((3 : Int32) &&& (8 : Int32)) = (0 : Int32) := by decide
      refine s_ifYes (pc' := 89) X20.here hx (hb hby at_80) ((if0 _ _).trans (teq hk92).1) (by decide) (by decide) ?_
      refine s_iload (pc' := 91) X20.here hx (hb hby at_89) rfl rfl ?_
      refine s_iconst (pc' := 92) X20.here hx (v := (4 : Int32)) (hb hby at_91) rfl rfl ?_
      refine s_iand (pc' := 93) X20.here hx (hb hby at_92) rfl ?_
      have hk93 : ((3 : Int32) &&& (4 : Int32)) = (0 : Int32) := by decide
      refine s_ifYes (pc' := 102) X20.here hx (hb hby at_93) ((if0 _ _).trans (teq hk93).1) (by decide) (by decide) ?_
      refine s_iload (pc' := 104) X20.here hx (hb hby at_102) rfl rfl ?_
      refine s_iconst (pc' := 105) X20.here hx (v := (2 : Int32)) (hb hby at_104) rfl rfl ?_
      refine s_iand (pc' := 106) X20.here hx (hb hby at_105) rfl ?_
      have hk94 : ¬ (((3 : Int32) &&& (2 : Int32)) = (0 : Int32)) := by decide
      refine s_ifNo (pc' := 109) X20.here hx (hb hby at_106) ((if0 _ _).trans (feq hk94).1) rfl ?_
      refine s_aload (pc' := 111) X20.here hx (hb hby at_109) rfl rfl rfl ?_
      refine s_callV (pc' := 114) (W := 0) X20 hx hZ  hown (hw _ (List.mem_of_getElem? (i := 33) rfl)) (hw _ (List.mem_of_getElem? (i := 34) rfl)) (hw _ (List.mem_of_getElem? (i := 4) rfl)) (hw _ (List.mem_of_getElem? (i := 37) rfl)) (hw _ (List.mem_of_getElem? (i := 36) rfl)) (hw _ (List.mem_of_getElem? (i := 35) rfl)) (by decide) eh20 f18 (own_rm7 l Z a0 hw [] ob ba ka1 n vl (0 : Int32) T16.heap n0 Z19 Fb Fp f18 f17 (by decide) n15 (by have q_ : ((0 : Int32)).toInt + 1 ≤ (3 : Int32).toInt := (by decide); omega) g_ob ne11) (by rw [hml]; rfl) [] [] rfl (lenOf own_pd4 rfl) rfl (Nat.le_of_eq rfl) (by decide) (by decide) (by decide) (by decide) rfl (hb hby at_111) fun T98 v98 Lc98 X98 hQ98 => ?_
      obtain ⟨r97, rfl, Nq98, Kq98, Fb95, Fp96⟩ := hQ98
      have N98 := Fr.app N20 Nq98
      have f99 := f17.keep Kq98 (ninS ne11 nin0)
      have f100 := f18.keep Kq98
      have Z101 : n0 ≤ T98.heap.size := Nat.le_trans Z19 Kq98.1
      show Ends p.tables e below (T98.setTop (mkF m 114 #[.val (.int p1), .val (.int p2), .val (.int p3), .val (.int n), .val (.int (3 : Int32)), .val (.ref ba), .val (.ref ob), .val (.int (1 : Int32)), .unset, .unset] [(.int r97)])) _
      refine s_pop (pc' := 115) X98.here hx (hb hby at_114) rfl rfl ?_
      refine s_aload (pc' := 117) X98.here hx (hb hby at_115) rfl rfl rfl ?_
      refine s_callV (pc' := 120) (W := 0) X98 hx hZ  hown (hw _ (List.mem_of_getElem? (i := 33) rfl)) (hw _ (List.mem_of_getElem? (i := 34) rfl)) (hw _ (List.mem_of_getElem? (i := 4) rfl)) (hw _ (List.mem_of_getElem? (i := 37) rfl)) (hw _ (List.mem_of_getElem? (i := 36) rfl)) (hw _ (List.mem_of_getElem? (i := 35) rfl)) (by decide) rfl f100 (own_rm7 l Z a0 hw [] ob ba ka1 n vl ((0 : Int32) + (1 : Int32)) T98.heap n0 Z101 Fb95 Fp96 f100 f99 (by decide) n15 (by have q_ : (((0 : Int32) + (1 : Int32))).toInt + 1 ≤ (3 : Int32).toInt := (by decide); omega) g_ob ne11) (by rw [hml]; rfl) [] [] rfl (lenOf own_pd4 rfl) rfl (Nat.le_of_eq rfl) (by decide) (by decide) (by decide) (by decide) rfl (hb hby at_117) fun T105 v105 Lc105 X105 hQ105 => ?_
      obtain ⟨r104, rfl, Nq105, Kq105, Fb102, Fp103⟩ := hQ105
      have N105 := Fr.app N98 Nq105
      have f106 := f99.keep Kq105 (ninS ne11 nin0)
      have f107 := f100.keep Kq105
      have Z108 : n0 ≤ T105.heap.size := Nat.le_trans Z101 Kq105.1
      show Ends p.tables e below (T105.setTop (mkF m 120 #[.val (.int p1), .val (.int p2), .val (.int p3), .val (.int n), .val (.int (3 : Int32)), .val (.ref ba), .val (.ref ob), .val (.int (1 : Int32)), .unset, .unset] [(.int r104)])) _
      refine s_pop (pc' := 121) X105.here hx (hb hby at_120) rfl rfl ?_
      refine s_iload (pc' := 123) X105.here hx (hb hby at_121) rfl rfl ?_
      refine s_iconst (pc' := 124) X105.here hx (v := (1 : Int32)) (hb hby at_123) rfl rfl ?_
      refine s_iand (pc' := 125) X105.here hx (hb hby at_124) rfl ?_
      have hk109 : ¬ (((3 : Int32) &&& (1 : Int32)) = (0 : Int32)) := by decide
      refine s_ifNo (pc' := 128) X105.here hx (hb hby at_125) ((if0 _ _).trans (feq hk109).1) rfl ?_
      refine s_aload (pc' := 130) X105.here hx (hb hby at_128) rfl rfl rfl ?_
      refine s_callV (pc' := 133) (W := 0) X105 hx hZ  hown (hw _ (List.mem_of_getElem? (i := 33) rfl)) (hw _ (List.mem_of_getElem? (i := 34) rfl)) (hw _ (List.mem_of_getElem? (i := 4) rfl)) (hw _ (List.mem_of_getElem? (i := 37) rfl)) (hw _ (List.mem_of_getElem? (i := 36) rfl)) (hw _ (List.mem_of_getElem? (i := 35) rfl)) (by decide) rfl f107 (own_rm7 l Z a0 hw [] ob ba ka1 n vl (((0 : Int32) + (1 : Int32)) + (1 : Int32)) T105.heap n0 Z108 Fb102 Fp103 f107 f106 (by decide) n15 (by have q_ : ((((0 : Int32) + (1 : Int32)) + (1 : Int32))).toInt + 1 ≤ (3 : Int32).toInt := (by decide); omega) g_ob ne11) (by rw [hml]; rfl) [] [] rfl (lenOf own_pd4 rfl) rfl (Nat.le_of_eq rfl) (by decide) (by decide) (by decide) (by decide) rfl (hb hby at_130) fun T113 v113 Lc113 X113 hQ113 => ?_
      obtain ⟨r112, rfl, Nq113, Kq113, Fb110, Fp111⟩ := hQ113
      have N113 := Fr.app N105 Nq113
      have f114 := f106.keep Kq113 (ninS ne11 nin0)
      have f115 := f107.keep Kq113
      have Z116 : n0 ≤ T113.heap.size := Nat.le_trans Z108 Kq113.1
      show Ends p.tables e below (T113.setTop (mkF m 133 #[.val (.int p1), .val (.int p2), .val (.int p3), .val (.int n), .val (.int (3 : Int32)), .val (.ref ba), .val (.ref ob), .val (.int (1 : Int32)), .unset, .unset] [(.int r112)])) _
      refine s_pop (pc' := 134) X113.here hx (hb hby at_133) rfl rfl ?_
      refine s_aload (pc' := 136) X113.here hx (hb hby at_134) rfl rfl rfl ?_
      have pk : ((((0 : Int32) + (1 : Int32)) + (1 : Int32)) + (1 : Int32)) = (3 : Int32) := by decide
      by_cases hkn : (3 : Int32) < n
      · refine s_callV (pc' := 139) (W := 0) X113 hx hZ  hown (hw _ (List.mem_of_getElem? (i := 13) rfl)) (hw _ (List.mem_of_getElem? (i := 14) rfl)) (hw _ (List.mem_of_getElem? (i := 4) rfl)) (hw _ (List.mem_of_getElem? (i := 17) rfl)) (hw _ (List.mem_of_getElem? (i := 16) rfl)) (hw _ (List.mem_of_getElem? (i := 15) rfl)) (by decide) rfl f115 (own_rm3 l Z a0 hw [] ob ba ka1 n vl ((((0 : Int32) + (1 : Int32)) + (1 : Int32)) + (1 : Int32)) T113.heap n0 Z116 Fb110 Fp111 f115 f114) (by rw [hml]; rfl) [] [] rfl (lenOf own_pd3 rfl) rfl (Nat.le_of_eq rfl) (by decide) (by decide) (by decide) (by decide) rfl (hb hby at_136) fun T117 v117 Lc117 X117 hQ117 => ?_
        obtain ⟨rfl, Nq117, eh117⟩ := hQ117
        have N117 := Fr.app N113 Nq117
        show Ends p.tables e below (T117.setTop (mkF m 139 #[.val (.int p1), .val (.int p2), .val (.int p3), .val (.int n), .val (.int (3 : Int32)), .val (.ref ba), .val (.ref ob), .val (.int (1 : Int32)), .unset, .unset] [(.int (if ((((0 : Int32) + (1 : Int32)) + (1 : Int32)) + (1 : Int32)) < n then 1 else 0))])) _
        have hr118 : (if ((((0 : Int32) + (1 : Int32)) + (1 : Int32)) + (1 : Int32)) < n then (1 : Int32) else 0) = 1 := by rw [pk]; simp only [hkn, if_true, if_false]
        rw [hr118]
        refine s_istore (pc' := 141) X117.here hx (l' := #[.val (.int p1), .val (.int p2), .val (.int p3), .val (.int n), .val (.int (3 : Int32)), .val (.ref ba), .val (.ref ob), .val (.int (1 : Int32)), .val (.int (1 : Int32)), .unset]) (hb hby at_139) rfl rfl ?_
        refine s_aload (pc' := 143) X117.here hx (hb hby at_141) rfl rfl rfl ?_
        refine s_callV (pc' := 146) (W := 0) X117 hx hZ  hown (hw _ (List.mem_of_getElem? (i := 13) rfl)) (hw _ (List.mem_of_getElem? (i := 14) rfl)) (hw _ (List.mem_of_getElem? (i := 4) rfl)) (hw _ (List.mem_of_getElem? (i := 17) rfl)) (hw _ (List.mem_of_getElem? (i := 16) rfl)) (hw _ (List.mem_of_getElem? (i := 15) rfl)) (by decide) eh117 f115 (own_rm3 l Z a0 hw [] ob ba ka1 n vl ((((0 : Int32) + (1 : Int32)) + (1 : Int32)) + (1 : Int32)) T113.heap n0 Z116 Fb110 Fp111 f115 f114) (by rw [hml]; rfl) [] [] rfl (lenOf own_pd3 rfl) rfl (Nat.le_of_eq rfl) (by decide) (by decide) (by decide) (by decide) rfl (hb hby at_143) fun T119 v119 Lc119 X119 hQ119 => ?_
        obtain ⟨rfl, Nq119, eh119⟩ := hQ119
        have N119 := Fr.app N117 Nq119
        show Ends p.tables e below (T119.setTop (mkF m 146 #[.val (.int p1), .val (.int p2), .val (.int p3), .val (.int n), .val (.int (3 : Int32)), .val (.ref ba), .val (.ref ob), .val (.int (1 : Int32)), .val (.int (1 : Int32)), .unset] [(.int (if ((((0 : Int32) + (1 : Int32)) + (1 : Int32)) + (1 : Int32)) < n then 1 else 0))])) _
        have hr120 : (if ((((0 : Int32) + (1 : Int32)) + (1 : Int32)) + (1 : Int32)) < n then (1 : Int32) else 0) = 1 := by rw [pk]; simp only [hkn, if_true, if_false]
        rw [hr120]
        refine s_istore (pc' := 148) X119.here hx (l' := #[.val (.int p1), .val (.int p2), .val (.int p3), .val (.int n), .val (.int (3 : Int32)), .val (.ref ba), .val (.ref ob), .val (.int (1 : Int32)), .val (.int (1 : Int32)), .val (.int (1 : Int32))]) (hb hby at_146) rfl rfl ?_
        refine s_iload (pc' := 150) X119.here hx (hb hby at_148) rfl rfl ?_
        refine s_iload (pc' := 152) X119.here hx (hb hby at_150) rfl rfl ?_
        refine s_iloadN (pc' := 153) X119.here hx (hb hby at_152) rfl rfl ?_
        refine s_icmpNo (pc' := 156) X119.here hx (hb hby at_153) (tlt hkn).2.1 rfl ?_
        refine s_iconst (pc' := 157) X119.here hx (v := (1 : Int32)) (hb hby at_156) rfl rfl ?_
        refine s_goto (pc' := 161) X119.here hx (hb hby at_157) (by decide) (by decide) ?_
        have hk121 : (1 : Int32) = (1 : Int32) := rfl
        refine s_icmpNo (pc' := 164) X119.here hx (hb hby at_161) (teq hk121).2 rfl ?_
        refine s_iload (pc' := 166) X119.here hx (hb hby at_164) rfl rfl ?_
        refine s_iload (pc' := 168) X119.here hx (hb hby at_166) rfl rfl ?_
        have hk122 : (1 : Int32) = (1 : Int32) := rfl
        refine s_icmpNo (pc' := 171) X119.here hx (hb hby at_168) (teq hk122).2 rfl ?_
        refine s_iconst (pc' := 172) X119.here hx (v := (1 : Int32)) (hb hby at_171) rfl rfl ?_
        refine s_goto (pc' := 176) X119.here hx (hb hby at_172) (by decide) (by decide) ?_
        obtain ⟨fs, hr, hrun, hended, hW, hsame⟩ := X119.leave (v := some (.int (1 : Int32))) (fun h => by rw [Bd.returns] at h; cases h)
        refine ⟨_, _, retN X119 hx (t := .boolean) Bd.returns (by simp) (hb hby at_176) hr, hrun, hended, _, _, rfl, ?_, ⟨_, rfl⟩, hW, hsame.mono (by decide) (by decide)⟩
        show own_rm0_Q Z p1 p2 p3 h0 n0 _ T119.heap _
        rw [eh119]
        exact ⟨rfl, N119⟩
      · refine s_callV (pc' := 139) (W := 0) X113 hx hZ  hown (hw _ (List.mem_of_getElem? (i := 13) rfl)) (hw _ (List.mem_of_getElem? (i := 14) rfl)) (hw _ (List.mem_of_getElem? (i := 4) rfl)) (hw _ (List.mem_of_getElem? (i := 17) rfl)) (hw _ (List.mem_of_getElem? (i := 16) rfl)) (hw _ (List.mem_of_getElem? (i := 15) rfl)) (by decide) rfl f115 (own_rm3 l Z a0 hw [] ob ba ka1 n vl ((((0 : Int32) + (1 : Int32)) + (1 : Int32)) + (1 : Int32)) T113.heap n0 Z116 Fb110 Fp111 f115 f114) (by rw [hml]; rfl) [] [] rfl (lenOf own_pd3 rfl) rfl (Nat.le_of_eq rfl) (by decide) (by decide) (by decide) (by decide) rfl (hb hby at_136) fun T123 v123 Lc123 X123 hQ123 => ?_
        obtain ⟨rfl, Nq123, eh123⟩ := hQ123
        have N123 := Fr.app N113 Nq123
        show Ends p.tables e below (T123.setTop (mkF m 139 #[.val (.int p1), .val (.int p2), .val (.int p3), .val (.int n), .val (.int (3 : Int32)), .val (.ref ba), .val (.ref ob), .val (.int (1 : Int32)), .unset, .unset] [(.int (if ((((0 : Int32) + (1 : Int32)) + (1 : Int32)) + (1 : Int32)) < n then 1 else 0))])) _
        have hr124 : (if ((((0 : Int32) + (1 : Int32)) + (1 : Int32)) + (1 : Int32)) < n then (1 : Int32) else 0) = 0 := by rw [pk]; simp only [hkn, if_true, if_false]
        rw [hr124]
        refine s_istore (pc' := 141) X123.here hx (l' := #[.val (.int p1), .val (.int p2), .val (.int p3), .val (.int n), .val (.int (3 : Int32)), .val (.ref ba), .val (.ref ob), .val (.int (1 : Int32)), .val (.int (0 : Int32)), .unset]) (hb hby at_139) rfl rfl ?_
        refine s_aload (pc' := 143) X123.here hx (hb hby at_141) rfl rfl rfl ?_
        refine s_callV (pc' := 146) (W := 0) X123 hx hZ  hown (hw _ (List.mem_of_getElem? (i := 13) rfl)) (hw _ (List.mem_of_getElem? (i := 14) rfl)) (hw _ (List.mem_of_getElem? (i := 4) rfl)) (hw _ (List.mem_of_getElem? (i := 17) rfl)) (hw _ (List.mem_of_getElem? (i := 16) rfl)) (hw _ (List.mem_of_getElem? (i := 15) rfl)) (by decide) eh123 f115 (own_rm3 l Z a0 hw [] ob ba ka1 n vl ((((0 : Int32) + (1 : Int32)) + (1 : Int32)) + (1 : Int32)) T113.heap n0 Z116 Fb110 Fp111 f115 f114) (by rw [hml]; rfl) [] [] rfl (lenOf own_pd3 rfl) rfl (Nat.le_of_eq rfl) (by decide) (by decide) (by decide) (by decide) rfl (hb hby at_143) fun T125 v125 Lc125 X125 hQ125 => ?_
        obtain ⟨rfl, Nq125, eh125⟩ := hQ125
        have N125 := Fr.app N123 Nq125
        show Ends p.tables e below (T125.setTop (mkF m 146 #[.val (.int p1), .val (.int p2), .val (.int p3), .val (.int n), .val (.int (3 : Int32)), .val (.ref ba), .val (.ref ob), .val (.int (1 : Int32)), .val (.int (0 : Int32)), .unset] [(.int (if ((((0 : Int32) + (1 : Int32)) + (1 : Int32)) + (1 : Int32)) < n then 1 else 0))])) _
        have hr126 : (if ((((0 : Int32) + (1 : Int32)) + (1 : Int32)) + (1 : Int32)) < n then (1 : Int32) else 0) = 0 := by rw [pk]; simp only [hkn, if_true, if_false]
        rw [hr126]
        refine s_istore (pc' := 148) X125.here hx (l' := #[.val (.int p1), .val (.int p2), .val (.int p3), .val (.int n), .val (.int (3 : Int32)), .val (.ref ba), .val (.ref ob), .val (.int (1 : Int32)), .val (.int (0 : Int32)), .val (.int (0 : Int32))]) (hb hby at_146) rfl rfl ?_
        refine s_iload (pc' := 150) X125.here hx (hb hby at_148) rfl rfl ?_
        refine s_iload (pc' := 152) X125.here hx (hb hby at_150) rfl rfl ?_
        refine s_iloadN (pc' := 153) X125.here hx (hb hby at_152) rfl rfl ?_
        refine s_icmpYes (pc' := 160) X125.here hx (hb hby at_153) (flt hkn).2.1 (by decide) (by decide) ?_
        refine s_iconst (pc' := 161) X125.here hx (v := (0 : Int32)) (hb hby at_160) rfl rfl ?_
        have hk127 : (0 : Int32) = (0 : Int32) := rfl
        refine s_icmpNo (pc' := 164) X125.here hx (hb hby at_161) (teq hk127).2 rfl ?_
        refine s_iload (pc' := 166) X125.here hx (hb hby at_164) rfl rfl ?_
        refine s_iload (pc' := 168) X125.here hx (hb hby at_166) rfl rfl ?_
        have hk128 : (0 : Int32) = (0 : Int32) := rfl
        refine s_icmpNo (pc' := 171) X125.here hx (hb hby at_168) (teq hk128).2 rfl ?_
        refine s_iconst (pc' := 172) X125.here hx (v := (1 : Int32)) (hb hby at_171) rfl rfl ?_
        refine s_goto (pc' := 176) X125.here hx (hb hby at_172) (by decide) (by decide) ?_
        obtain ⟨fs, hr, hrun, hended, hW, hsame⟩ := X125.leave (v := some (.int (1 : Int32))) (fun h => by rw [Bd.returns] at h; cases h)
        refine ⟨_, _, retN X125 hx (t := .boolean) Bd.returns (by simp) (hb hby at_176) hr, hrun, hended, _, _, rfl, ?_, ⟨_, rfl⟩, hW, hsame.mono (by decide) (by decide)⟩
        show own_rm0_Q Z p1 p2 p3 h0 n0 _ T125.heap _
        rw [eh125]
        exact ⟨rfl, N125⟩
    · subst hq_
      refine s_iload (pc' := 77) X20.here hx (hb hby at_75) rfl rfl ?_
      refine s_bipush (pc' := 79) X20.here hx (v := (8 : Int32)) (hb hby at_77) rfl rfl ?_
      refine s_iand (pc' := 80) X20.here hx (hb hby at_79) rfl ?_
      have hk129 : ((4 : Int32) &&& (8 : Int32)) = (0 : Int32) := by decide
      refine s_ifYes (pc' := 89) X20.here hx (hb hby at_80) ((if0 _ _).trans (teq hk129).1) (by decide) (by decide) ?_
      refine s_iload (pc' := 91) X20.here hx (hb hby at_89) rfl rfl ?_
      refine s_iconst (pc' := 92) X20.here hx (v := (4 : Int32)) (hb hby at_91) rfl rfl ?_
      refine s_iand (pc' := 93) X20.here hx (hb hby at_92) rfl ?_
      have hk130 : ¬ (((4 : Int32) &&& (4 : Int32)) = (0 : Int32)) := by decide
      refine s_ifNo (pc' := 96) X20.here hx (hb hby at_93) ((if0 _ _).trans (feq hk130).1) rfl ?_
      refine s_aload (pc' := 98) X20.here hx (hb hby at_96) rfl rfl rfl ?_
      refine s_callV (pc' := 101) (W := 0) X20 hx hZ  hown (hw _ (List.mem_of_getElem? (i := 20) rfl)) (hw _ (List.mem_of_getElem? (i := 21) rfl)) (hw _ (List.mem_of_getElem? (i := 4) rfl)) (hw _ (List.mem_of_getElem? (i := 24) rfl)) (hw _ (List.mem_of_getElem? (i := 23) rfl)) (hw _ (List.mem_of_getElem? (i := 22) rfl)) (by decide) eh20 f18 (own_rm4 l Z a0 hw [] ob ba ka1 n vl (0 : Int32) T16.heap n0 Z19 Fb Fp f18 f17 (by decide) n15 (by have q_ : ((0 : Int32)).toInt + 4 ≤ (4 : Int32).toInt := (by decide); omega) g_ob ne11) (by rw [hml]; rfl) [] [] rfl (lenOf own_pd5 rfl) rfl (Nat.le_of_eq rfl) (by decide) (by decide) (by decide) (by decide) rfl (hb hby at_98) fun T134 v134 Lc134 X134 hQ134 => ?_
      obtain ⟨r133, rfl, Nq134, Kq134, Fb131, Fp132⟩ := hQ134
      have N134 := Fr.app N20 Nq134
      have f135 := f17.keep Kq134 (ninS ne11 nin0)
      have f136 := f18.keep Kq134
      have Z137 : n0 ≤ T134.heap.size := Nat.le_trans Z19 Kq134.1
      show Ends p.tables e below (T134.setTop (mkF m 101 #[.val (.int p1), .val (.int p2), .val (.int p3), .val (.int n), .val (.int (4 : Int32)), .val (.ref ba), .val (.ref ob), .val (.int (1 : Int32)), .unset, .unset] [(.int r133)])) _
      refine s_pop (pc' := 102) X134.here hx (hb hby at_101) rfl rfl ?_
      refine s_iload (pc' := 104) X134.here hx (hb hby at_102) rfl rfl ?_
      refine s_iconst (pc' := 105) X134.here hx (v := (2 : Int32)) (hb hby at_104) rfl rfl ?_
      refine s_iand (pc' := 106) X134.here hx (hb hby at_105) rfl ?_
      have hk138 : ((4 : Int32) &&& (2 : Int32)) = (0 : Int32) := by decide
      refine s_ifYes (pc' := 121) X134.here hx (hb hby at_106) ((if0 _ _).trans (teq hk138).1) (by decide) (by decide) ?_
      refine s_iload (pc' := 123) X134.here hx (hb hby at_121) rfl rfl ?_
      refine s_iconst (pc' := 124) X134.here hx (v := (1 : Int32)) (hb hby at_123) rfl rfl ?_
      refine s_iand (pc' := 125) X134.here hx (hb hby at_124) rfl ?_
      have hk139 : ((4 : Int32) &&& (1 : Int32)) = (0 : Int32) := by decide
      refine s_ifYes (pc' := 134) X134.here hx (hb hby at_125) ((if0 _ _).trans (teq hk139).1) (by decide) (by decide) ?_
      refine s_aload (pc' := 136) X134.here hx (hb hby at_134) rfl rfl rfl ?_
      have pk : ((0 : Int32) + (4 : Int32)) = (4 : Int32) := by decide
      by_cases hkn : (4 : Int32) < n
      · refine s_callV (pc' := 139) (W := 0) X134 hx hZ  hown (hw _ (List.mem_of_getElem? (i := 13) rfl)) (hw _ (List.mem_of_getElem? (i := 14) rfl)) (hw _ (List.mem_of_getElem? (i := 4) rfl)) (hw _ (List.mem_of_getElem? (i := 17) rfl)) (hw _ (List.mem_of_getElem? (i := 16) rfl)) (hw _ (List.mem_of_getElem? (i := 15) rfl)) (by decide) rfl f136 (own_rm3 l Z a0 hw [] ob ba ka1 n vl ((0 : Int32) + (4 : Int32)) T134.heap n0 Z137 Fb131 Fp132 f136 f135) (by rw [hml]; rfl) [] [] rfl (lenOf own_pd3 rfl) rfl (Nat.le_of_eq rfl) (by decide) (by decide) (by decide) (by decide) rfl (hb hby at_136) fun T140 v140 Lc140 X140 hQ140 => ?_
        obtain ⟨rfl, Nq140, eh140⟩ := hQ140
        have N140 := Fr.app N134 Nq140
        show Ends p.tables e below (T140.setTop (mkF m 139 #[.val (.int p1), .val (.int p2), .val (.int p3), .val (.int n), .val (.int (4 : Int32)), .val (.ref ba), .val (.ref ob), .val (.int (1 : Int32)), .unset, .unset] [(.int (if ((0 : Int32) + (4 : Int32)) < n then 1 else 0))])) _
        have hr141 : (if ((0 : Int32) + (4 : Int32)) < n then (1 : Int32) else 0) = 1 := by rw [pk]; simp only [hkn, if_true, if_false]
        rw [hr141]
        refine s_istore (pc' := 141) X140.here hx (l' := #[.val (.int p1), .val (.int p2), .val (.int p3), .val (.int n), .val (.int (4 : Int32)), .val (.ref ba), .val (.ref ob), .val (.int (1 : Int32)), .val (.int (1 : Int32)), .unset]) (hb hby at_139) rfl rfl ?_
        refine s_aload (pc' := 143) X140.here hx (hb hby at_141) rfl rfl rfl ?_
        refine s_callV (pc' := 146) (W := 0) X140 hx hZ  hown (hw _ (List.mem_of_getElem? (i := 13) rfl)) (hw _ (List.mem_of_getElem? (i := 14) rfl)) (hw _ (List.mem_of_getElem? (i := 4) rfl)) (hw _ (List.mem_of_getElem? (i := 17) rfl)) (hw _ (List.mem_of_getElem? (i := 16) rfl)) (hw _ (List.mem_of_getElem? (i := 15) rfl)) (by decide) eh140 f136 (own_rm3 l Z a0 hw [] ob ba ka1 n vl ((0 : Int32) + (4 : Int32)) T134.heap n0 Z137 Fb131 Fp132 f136 f135) (by rw [hml]; rfl) [] [] rfl (lenOf own_pd3 rfl) rfl (Nat.le_of_eq rfl) (by decide) (by decide) (by decide) (by decide) rfl (hb hby at_143) fun T142 v142 Lc142 X142 hQ142 => ?_
        obtain ⟨rfl, Nq142, eh142⟩ := hQ142
        have N142 := Fr.app N140 Nq142
        show Ends p.tables e below (T142.setTop (mkF m 146 #[.val (.int p1), .val (.int p2), .val (.int p3), .val (.int n), .val (.int (4 : Int32)), .val (.ref ba), .val (.ref ob), .val (.int (1 : Int32)), .val (.int (1 : Int32)), .unset] [(.int (if ((0 : Int32) + (4 : Int32)) < n then 1 else 0))])) _
        have hr143 : (if ((0 : Int32) + (4 : Int32)) < n then (1 : Int32) else 0) = 1 := by rw [pk]; simp only [hkn, if_true, if_false]
        rw [hr143]
        refine s_istore (pc' := 148) X142.here hx (l' := #[.val (.int p1), .val (.int p2), .val (.int p3), .val (.int n), .val (.int (4 : Int32)), .val (.ref ba), .val (.ref ob), .val (.int (1 : Int32)), .val (.int (1 : Int32)), .val (.int (1 : Int32))]) (hb hby at_146) rfl rfl ?_
        refine s_iload (pc' := 150) X142.here hx (hb hby at_148) rfl rfl ?_
        refine s_iload (pc' := 152) X142.here hx (hb hby at_150) rfl rfl ?_
        refine s_iloadN (pc' := 153) X142.here hx (hb hby at_152) rfl rfl ?_
        refine s_icmpNo (pc' := 156) X142.here hx (hb hby at_153) (tlt hkn).2.1 rfl ?_
        refine s_iconst (pc' := 157) X142.here hx (v := (1 : Int32)) (hb hby at_156) rfl rfl ?_
        refine s_goto (pc' := 161) X142.here hx (hb hby at_157) (by decide) (by decide) ?_
        have hk144 : (1 : Int32) = (1 : Int32) := rfl
        refine s_icmpNo (pc' := 164) X142.here hx (hb hby at_161) (teq hk144).2 rfl ?_
        refine s_iload (pc' := 166) X142.here hx (hb hby at_164) rfl rfl ?_
        refine s_iload (pc' := 168) X142.here hx (hb hby at_166) rfl rfl ?_
        have hk145 : (1 : Int32) = (1 : Int32) := rfl
        refine s_icmpNo (pc' := 171) X142.here hx (hb hby at_168) (teq hk145).2 rfl ?_
        refine s_iconst (pc' := 172) X142.here hx (v := (1 : Int32)) (hb hby at_171) rfl rfl ?_
        refine s_goto (pc' := 176) X142.here hx (hb hby at_172) (by decide) (by decide) ?_
        obtain ⟨fs, hr, hrun, hended, hW, hsame⟩ := X142.leave (v := some (.int (1 : Int32))) (fun h => by rw [Bd.returns] at h; cases h)
        refine ⟨_, _, retN X142 hx (t := .boolean) Bd.returns (by simp) (hb hby at_176) hr, hrun, hended, _, _, rfl, ?_, ⟨_, rfl⟩, hW, hsame.mono (by decide) (by decide)⟩
        show own_rm0_Q Z p1 p2 p3 h0 n0 _ T142.heap _
        rw [eh142]
        exact ⟨rfl, N142⟩
      · refine s_callV (pc' := 139) (W := 0) X134 hx hZ  hown (hw _ (List.mem_of_getElem? (i := 13) rfl)) (hw _ (List.mem_of_getElem? (i := 14) rfl)) (hw _ (List.mem_of_getElem? (i := 4) rfl)) (hw _ (List.mem_of_getElem? (i := 17) rfl)) (hw _ (List.mem_of_getElem? (i := 16) rfl)) (hw _ (List.mem_of_getElem? (i := 15) rfl)) (by decide) rfl f136 (own_rm3 l Z a0 hw [] ob ba ka1 n vl ((0 : Int32) + (4 : Int32)) T134.heap n0 Z137 Fb131 Fp132 f136 f135) (by rw [hml]; rfl) [] [] rfl (lenOf own_pd3 rfl) rfl (Nat.le_of_eq rfl) (by decide) (by decide) (by decide) (by decide) rfl (hb hby at_136) fun T146 v146 Lc146 X146 hQ146 => ?_
        obtain ⟨rfl, Nq146, eh146⟩ := hQ146
        have N146 := Fr.app N134 Nq146
        show Ends p.tables e below (T146.setTop (mkF m 139 #[.val (.int p1), .val (.int p2), .val (.int p3), .val (.int n), .val (.int (4 : Int32)), .val (.ref ba), .val (.ref ob), .val (.int (1 : Int32)), .unset, .unset] [(.int (if ((0 : Int32) + (4 : Int32)) < n then 1 else 0))])) _
        have hr147 : (if ((0 : Int32) + (4 : Int32)) < n then (1 : Int32) else 0) = 0 := by rw [pk]; simp only [hkn, if_true, if_false]
        rw [hr147]
        refine s_istore (pc' := 141) X146.here hx (l' := #[.val (.int p1), .val (.int p2), .val (.int p3), .val (.int n), .val (.int (4 : Int32)), .val (.ref ba), .val (.ref ob), .val (.int (1 : Int32)), .val (.int (0 : Int32)), .unset]) (hb hby at_139) rfl rfl ?_
        refine s_aload (pc' := 143) X146.here hx (hb hby at_141) rfl rfl rfl ?_
        refine s_callV (pc' := 146) (W := 0) X146 hx hZ  hown (hw _ (List.mem_of_getElem? (i := 13) rfl)) (hw _ (List.mem_of_getElem? (i := 14) rfl)) (hw _ (List.mem_of_getElem? (i := 4) rfl)) (hw _ (List.mem_of_getElem? (i := 17) rfl)) (hw _ (List.mem_of_getElem? (i := 16) rfl)) (hw _ (List.mem_of_getElem? (i := 15) rfl)) (by decide) eh146 f136 (own_rm3 l Z a0 hw [] ob ba ka1 n vl ((0 : Int32) + (4 : Int32)) T134.heap n0 Z137 Fb131 Fp132 f136 f135) (by rw [hml]; rfl) [] [] rfl (lenOf own_pd3 rfl) rfl (Nat.le_of_eq rfl) (by decide) (by decide) (by decide) (by decide) rfl (hb hby at_143) fun T148 v148 Lc148 X148 hQ148 => ?_
        obtain ⟨rfl, Nq148, eh148⟩ := hQ148
        have N148 := Fr.app N146 Nq148
        show Ends p.tables e below (T148.setTop (mkF m 146 #[.val (.int p1), .val (.int p2), .val (.int p3), .val (.int n), .val (.int (4 : Int32)), .val (.ref ba), .val (.ref ob), .val (.int (1 : Int32)), .val (.int (0 : Int32)), .unset] [(.int (if ((0 : Int32) + (4 : Int32)) < n then 1 else 0))])) _
        have hr149 : (if ((0 : Int32) + (4 : Int32)) < n then (1 : Int32) else 0) = 0 := by rw [pk]; simp only [hkn, if_true, if_false]
        rw [hr149]
        refine s_istore (pc' := 148) X148.here hx (l' := #[.val (.int p1), .val (.int p2), .val (.int p3), .val (.int n), .val (.int (4 : Int32)), .val (.ref ba), .val (.ref ob), .val (.int (1 : Int32)), .val (.int (0 : Int32)), .val (.int (0 : Int32))]) (hb hby at_146) rfl rfl ?_
        refine s_iload (pc' := 150) X148.here hx (hb hby at_148) rfl rfl ?_
        refine s_iload (pc' := 152) X148.here hx (hb hby at_150) rfl rfl ?_
        refine s_iloadN (pc' := 153) X148.here hx (hb hby at_152) rfl rfl ?_
        refine s_icmpYes (pc' := 160) X148.here hx (hb hby at_153) (flt hkn).2.1 (by decide) (by decide) ?_
        refine s_iconst (pc' := 161) X148.here hx (v := (0 : Int32)) (hb hby at_160) rfl rfl ?_
        have hk150 : (0 : Int32) = (0 : Int32) := rfl
        refine s_icmpNo (pc' := 164) X148.here hx (hb hby at_161) (teq hk150).2 rfl ?_
        refine s_iload (pc' := 166) X148.here hx (hb hby at_164) rfl rfl ?_
        refine s_iload (pc' := 168) X148.here hx (hb hby at_166) rfl rfl ?_
        have hk151 : (0 : Int32) = (0 : Int32) := rfl
        refine s_icmpNo (pc' := 171) X148.here hx (hb hby at_168) (teq hk151).2 rfl ?_
        refine s_iconst (pc' := 172) X148.here hx (v := (1 : Int32)) (hb hby at_171) rfl rfl ?_
        refine s_goto (pc' := 176) X148.here hx (hb hby at_172) (by decide) (by decide) ?_
        obtain ⟨fs, hr, hrun, hended, hW, hsame⟩ := X148.leave (v := some (.int (1 : Int32))) (fun h => by rw [Bd.returns] at h; cases h)
        refine ⟨_, _, retN X148 hx (t := .boolean) Bd.returns (by simp) (hb hby at_176) hr, hrun, hended, _, _, rfl, ?_, ⟨_, rfl⟩, hW, hsame.mono (by decide) (by decide)⟩
        show own_rm0_Q Z p1 p2 p3 h0 n0 _ T148.heap _
        rw [eh148]
        exact ⟨rfl, N148⟩
    · subst hq_
      refine s_iload (pc' := 77) X20.here hx (hb hby at_75) rfl rfl ?_
      refine s_bipush (pc' := 79) X20.here hx (v := (8 : Int32)) (hb hby at_77) rfl rfl ?_
      refine s_iand (pc' := 80) X20.here hx (hb hby at_79) rfl ?_
      have hk152 : ((5 : Int32) &&& (8 : Int32)) = (0 : Int32) := by decide
      refine s_ifYes (pc' := 89) X20.here hx (hb hby at_80) ((if0 _ _).trans (teq hk152).1) (by decide) (by decide) ?_
      refine s_iload (pc' := 91) X20.here hx (hb hby at_89) rfl rfl ?_
      refine s_iconst (pc' := 92) X20.here hx (v := (4 : Int32)) (hb hby at_91) rfl rfl ?_
      refine s_iand (pc' := 93) X20.here hx (hb hby at_92) rfl ?_
      have hk153 : ¬ (((5 : Int32) &&& (4 : Int32)) = (0 : Int32)) := by decide
      refine s_ifNo (pc' := 96) X20.here hx (hb hby at_93) ((if0 _ _).trans (feq hk153).1) rfl ?_
      refine s_aload (pc' := 98) X20.here hx (hb hby at_96) rfl rfl rfl ?_
      refine s_callV (pc' := 101) (W := 0) X20 hx hZ  hown (hw _ (List.mem_of_getElem? (i := 20) rfl)) (hw _ (List.mem_of_getElem? (i := 21) rfl)) (hw _ (List.mem_of_getElem? (i := 4) rfl)) (hw _ (List.mem_of_getElem? (i := 24) rfl)) (hw _ (List.mem_of_getElem? (i := 23) rfl)) (hw _ (List.mem_of_getElem? (i := 22) rfl)) (by decide) eh20 f18 (own_rm4 l Z a0 hw [] ob ba ka1 n vl (0 : Int32) T16.heap n0 Z19 Fb Fp f18 f17 (by decide) n15 (by have q_ : ((0 : Int32)).toInt + 4 ≤ (5 : Int32).toInt := (by decide); omega) g_ob ne11) (by rw [hml]; rfl) [] [] rfl (lenOf own_pd5 rfl) rfl (Nat.le_of_eq rfl) (by decide) (by decide) (by decide) (by decide) rfl (hb hby at_98) fun T157 v157 Lc157 X157 hQ157 => ?_
      obtain ⟨r156, rfl, Nq157, Kq157, Fb154, Fp155⟩ := hQ157
      have N157 := Fr.app N20 Nq157
      have f158 := f17.keep Kq157 (ninS ne11 nin0)
      have f159 := f18.keep Kq157
      have Z160 : n0 ≤ T157.heap.size := Nat.le_trans Z19 Kq157.1
      show Ends p.tables e below (T157.setTop (mkF m 101 #[.val (.int p1), .val (.int p2), .val (.int p3), .val (.int n), .val (.int (5 : Int32)), .val (.ref ba), .val (.ref ob), .val (.int (1 : Int32)), .unset, .unset] [(.int r156)])) _
      refine s_pop (pc' := 102) X157.here hx (hb hby at_101) rfl rfl ?_
      refine s_iload (pc' := 104) X157.here hx (hb hby at_102) rfl rfl ?_
      refine s_iconst (pc' := 105) X157.here hx (v := (2 : Int32)) (hb hby at_104) rfl rfl ?_
      refine s_iand (pc' := 106) X157.here hx (hb hby at_105) rfl ?_
      have hk161 : ((5 : Int32) &&& (2 : Int32)) = (0 : Int32) := by decide
      refine s_ifYes (pc' := 121) X157.here hx (hb hby at_106) ((if0 _ _).trans (teq hk161).1) (by decide) (by decide) ?_
      refine s_iload (pc' := 123) X157.here hx (hb hby at_121) rfl rfl ?_
      refine s_iconst (pc' := 124) X157.here hx (v := (1 : Int32)) (hb hby at_123) rfl rfl ?_
      refine s_iand (pc' := 125) X157.here hx (hb hby at_124) rfl ?_
      have hk162 : ¬ (((5 : Int32) &&& (1 : Int32)) = (0 : Int32)) := by decide
      refine s_ifNo (pc' := 128) X157.here hx (hb hby at_125) ((if0 _ _).trans (feq hk162).1) rfl ?_
      refine s_aload (pc' := 130) X157.here hx (hb hby at_128) rfl rfl rfl ?_
      refine s_callV (pc' := 133) (W := 0) X157 hx hZ  hown (hw _ (List.mem_of_getElem? (i := 33) rfl)) (hw _ (List.mem_of_getElem? (i := 34) rfl)) (hw _ (List.mem_of_getElem? (i := 4) rfl)) (hw _ (List.mem_of_getElem? (i := 37) rfl)) (hw _ (List.mem_of_getElem? (i := 36) rfl)) (hw _ (List.mem_of_getElem? (i := 35) rfl)) (by decide) rfl f159 (own_rm7 l Z a0 hw [] ob ba ka1 n vl ((0 : Int32) + (4 : Int32)) T157.heap n0 Z160 Fb154 Fp155 f159 f158 (by decide) n15 (by have q_ : (((0 : Int32) + (4 : Int32))).toInt + 1 ≤ (5 : Int32).toInt := (by decide); omega) g_ob ne11) (by rw [hml]; rfl) [] [] rfl (lenOf own_pd4 rfl) rfl (Nat.le_of_eq rfl) (by decide) (by decide) (by decide) (by decide) rfl (hb hby at_130) fun T166 v166 Lc166 X166 hQ166 => ?_
      obtain ⟨r165, rfl, Nq166, Kq166, Fb163, Fp164⟩ := hQ166
      have N166 := Fr.app N157 Nq166
      have f167 := f158.keep Kq166 (ninS ne11 nin0)
      have f168 := f159.keep Kq166
      have Z169 : n0 ≤ T166.heap.size := Nat.le_trans Z160 Kq166.1
      show Ends p.tables e below (T166.setTop (mkF m 133 #[.val (.int p1), .val (.int p2), .val (.int p3), .val (.int n), .val (.int (5 : Int32)), .val (.ref ba), .val (.ref ob), .val (.int (1 : Int32)), .unset, .unset] [(.int r165)])) _
      refine s_pop (pc' := 134) X166.here hx (hb hby at_133) rfl rfl ?_
      refine s_aload (pc' := 136) X166.here hx (hb hby at_134) rfl rfl rfl ?_
      have pk : (((0 : Int32) + (4 : Int32)) + (1 : Int32)) = (5 : Int32) := by decide
      by_cases hkn : (5 : Int32) < n
      · refine s_callV (pc' := 139) (W := 0) X166 hx hZ  hown (hw _ (List.mem_of_getElem? (i := 13) rfl)) (hw _ (List.mem_of_getElem? (i := 14) rfl)) (hw _ (List.mem_of_getElem? (i := 4) rfl)) (hw _ (List.mem_of_getElem? (i := 17) rfl)) (hw _ (List.mem_of_getElem? (i := 16) rfl)) (hw _ (List.mem_of_getElem? (i := 15) rfl)) (by decide) rfl f168 (own_rm3 l Z a0 hw [] ob ba ka1 n vl (((0 : Int32) + (4 : Int32)) + (1 : Int32)) T166.heap n0 Z169 Fb163 Fp164 f168 f167) (by rw [hml]; rfl) [] [] rfl (lenOf own_pd3 rfl) rfl (Nat.le_of_eq rfl) (by decide) (by decide) (by decide) (by decide) rfl (hb hby at_136) fun T170 v170 Lc170 X170 hQ170 => ?_
        obtain ⟨rfl, Nq170, eh170⟩ := hQ170
        have N170 := Fr.app N166 Nq170
        show Ends p.tables e below (T170.setTop (mkF m 139 #[.val (.int p1), .val (.int p2), .val (.int p3), .val (.int n), .val (.int (5 : Int32)), .val (.ref ba), .val (.ref ob), .val (.int (1 : Int32)), .unset, .unset] [(.int (if (((0 : Int32) + (4 : Int32)) + (1 : Int32)) < n then 1 else 0))])) _
        have hr171 : (if (((0 : Int32) + (4 : Int32)) + (1 : Int32)) < n then (1 : Int32) else 0) = 1 := by rw [pk]; simp only [hkn, if_true, if_false]
        rw [hr171]
        refine s_istore (pc' := 141) X170.here hx (l' := #[.val (.int p1), .val (.int p2), .val (.int p3), .val (.int n), .val (.int (5 : Int32)), .val (.ref ba), .val (.ref ob), .val (.int (1 : Int32)), .val (.int (1 : Int32)), .unset]) (hb hby at_139) rfl rfl ?_
        refine s_aload (pc' := 143) X170.here hx (hb hby at_141) rfl rfl rfl ?_
        refine s_callV (pc' := 146) (W := 0) X170 hx hZ  hown (hw _ (List.mem_of_getElem? (i := 13) rfl)) (hw _ (List.mem_of_getElem? (i := 14) rfl)) (hw _ (List.mem_of_getElem? (i := 4) rfl)) (hw _ (List.mem_of_getElem? (i := 17) rfl)) (hw _ (List.mem_of_getElem? (i := 16) rfl)) (hw _ (List.mem_of_getElem? (i := 15) rfl)) (by decide) eh170 f168 (own_rm3 l Z a0 hw [] ob ba ka1 n vl (((0 : Int32) + (4 : Int32)) + (1 : Int32)) T166.heap n0 Z169 Fb163 Fp164 f168 f167) (by rw [hml]; rfl) [] [] rfl (lenOf own_pd3 rfl) rfl (Nat.le_of_eq rfl) (by decide) (by decide) (by decide) (by decide) rfl (hb hby at_143) fun T172 v172 Lc172 X172 hQ172 => ?_
        obtain ⟨rfl, Nq172, eh172⟩ := hQ172
        have N172 := Fr.app N170 Nq172
        show Ends p.tables e below (T172.setTop (mkF m 146 #[.val (.int p1), .val (.int p2), .val (.int p3), .val (.int n), .val (.int (5 : Int32)), .val (.ref ba), .val (.ref ob), .val (.int (1 : Int32)), .val (.int (1 : Int32)), .unset] [(.int (if (((0 : Int32) + (4 : Int32)) + (1 : Int32)) < n then 1 else 0))])) _
        have hr173 : (if (((0 : Int32) + (4 : Int32)) + (1 : Int32)) < n then (1 : Int32) else 0) = 1 := by rw [pk]; simp only [hkn, if_true, if_false]
        rw [hr173]
        refine s_istore (pc' := 148) X172.here hx (l' := #[.val (.int p1), .val (.int p2), .val (.int p3), .val (.int n), .val (.int (5 : Int32)), .val (.ref ba), .val (.ref ob), .val (.int (1 : Int32)), .val (.int (1 : Int32)), .val (.int (1 : Int32))]) (hb hby at_146) rfl rfl ?_
        refine s_iload (pc' := 150) X172.here hx (hb hby at_148) rfl rfl ?_
        refine s_iload (pc' := 152) X172.here hx (hb hby at_150) rfl rfl ?_
        refine s_iloadN (pc' := 153) X172.here hx (hb hby at_152) rfl rfl ?_
        refine s_icmpNo (pc' := 156) X172.here hx (hb hby at_153) (tlt hkn).2.1 rfl ?_
        refine s_iconst (pc' := 157) X172.here hx (v := (1 : Int32)) (hb hby at_156) rfl rfl ?_
        refine s_goto (pc' := 161) X172.here hx (hb hby at_157) (by decide) (by decide) ?_
        have hk174 : (1 : Int32) = (1 : Int32) := rfl
        refine s_icmpNo (pc' := 164) X172.here hx (hb hby at_161) (teq hk174).2 rfl ?_
        refine s_iload (pc' := 166) X172.here hx (hb hby at_164) rfl rfl ?_
        refine s_iload (pc' := 168) X172.here hx (hb hby at_166) rfl rfl ?_
        have hk175 : (1 : Int32) = (1 : Int32) := rfl
        refine s_icmpNo (pc' := 171) X172.here hx (hb hby at_168) (teq hk175).2 rfl ?_
        refine s_iconst (pc' := 172) X172.here hx (v := (1 : Int32)) (hb hby at_171) rfl rfl ?_
        refine s_goto (pc' := 176) X172.here hx (hb hby at_172) (by decide) (by decide) ?_
        obtain ⟨fs, hr, hrun, hended, hW, hsame⟩ := X172.leave (v := some (.int (1 : Int32))) (fun h => by rw [Bd.returns] at h; cases h)
        refine ⟨_, _, retN X172 hx (t := .boolean) Bd.returns (by simp) (hb hby at_176) hr, hrun, hended, _, _, rfl, ?_, ⟨_, rfl⟩, hW, hsame.mono (by decide) (by decide)⟩
        show own_rm0_Q Z p1 p2 p3 h0 n0 _ T172.heap _
        rw [eh172]
        exact ⟨rfl, N172⟩
      · refine s_callV (pc' := 139) (W := 0) X166 hx hZ  hown (hw _ (List.mem_of_getElem? (i := 13) rfl)) (hw _ (List.mem_of_getElem? (i := 14) rfl)) (hw _ (List.mem_of_getElem? (i := 4) rfl)) (hw _ (List.mem_of_getElem? (i := 17) rfl)) (hw _ (List.mem_of_getElem? (i := 16) rfl)) (hw _ (List.mem_of_getElem? (i := 15) rfl)) (by decide) rfl f168 (own_rm3 l Z a0 hw [] ob ba ka1 n vl (((0 : Int32) + (4 : Int32)) + (1 : Int32)) T166.heap n0 Z169 Fb163 Fp164 f168 f167) (by rw [hml]; rfl) [] [] rfl (lenOf own_pd3 rfl) rfl (Nat.le_of_eq rfl) (by decide) (by decide) (by decide) (by decide) rfl (hb hby at_136) fun T176 v176 Lc176 X176 hQ176 => ?_
        obtain ⟨rfl, Nq176, eh176⟩ := hQ176
        have N176 := Fr.app N166 Nq176
        show Ends p.tables e below (T176.setTop (mkF m 139 #[.val (.int p1), .val (.int p2), .val (.int p3), .val (.int n), .val (.int (5 : Int32)), .val (.ref ba), .val (.ref ob), .val (.int (1 : Int32)), .unset, .unset] [(.int (if (((0 : Int32) + (4 : Int32)) + (1 : Int32)) < n then 1 else 0))])) _
        have hr177 : (if (((0 : Int32) + (4 : Int32)) + (1 : Int32)) < n then (1 : Int32) else 0) = 0 := by rw [pk]; simp only [hkn, if_true, if_false]
        rw [hr177]
        refine s_istore (pc' := 141) X176.here hx (l' := #[.val (.int p1), .val (.int p2), .val (.int p3), .val (.int n), .val (.int (5 : Int32)), .val (.ref ba), .val (.ref ob), .val (.int (1 : Int32)), .val (.int (0 : Int32)), .unset]) (hb hby at_139) rfl rfl ?_
        refine s_aload (pc' := 143) X176.here hx (hb hby at_141) rfl rfl rfl ?_
        refine s_callV (pc' := 146) (W := 0) X176 hx hZ  hown (hw _ (List.mem_of_getElem? (i := 13) rfl)) (hw _ (List.mem_of_getElem? (i := 14) rfl)) (hw _ (List.mem_of_getElem? (i := 4) rfl)) (hw _ (List.mem_of_getElem? (i := 17) rfl)) (hw _ (List.mem_of_getElem? (i := 16) rfl)) (hw _ (List.mem_of_getElem? (i := 15) rfl)) (by decide) eh176 f168 (own_rm3 l Z a0 hw [] ob ba ka1 n vl (((0 : Int32) + (4 : Int32)) + (1 : Int32)) T166.heap n0 Z169 Fb163 Fp164 f168 f167) (by rw [hml]; rfl) [] [] rfl (lenOf own_pd3 rfl) rfl (Nat.le_of_eq rfl) (by decide) (by decide) (by decide) (by decide) rfl (hb hby at_143) fun T178 v178 Lc178 X178 hQ178 => ?_
        obtain ⟨rfl, Nq178, eh178⟩ := hQ178
        have N178 := Fr.app N176 Nq178
        show Ends p.tables e below (T178.setTop (mkF m 146 #[.val (.int p1), .val (.int p2), .val (.int p3), .val (.int n), .val (.int (5 : Int32)), .val (.ref ba), .val (.ref ob), .val (.int (1 : Int32)), .val (.int (0 : Int32)), .unset] [(.int (if (((0 : Int32) + (4 : Int32)) + (1 : Int32)) < n then 1 else 0))])) _
        have hr179 : (if (((0 : Int32) + (4 : Int32)) + (1 : Int32)) < n then (1 : Int32) else 0) = 0 := by rw [pk]; simp only [hkn, if_true, if_false]
        rw [hr179]
        refine s_istore (pc' := 148) X178.here hx (l' := #[.val (.int p1), .val (.int p2), .val (.int p3), .val (.int n), .val (.int (5 : Int32)), .val (.ref ba), .val (.ref ob), .val (.int (1 : Int32)), .val (.int (0 : Int32)), .val (.int (0 : Int32))]) (hb hby at_146) rfl rfl ?_
        refine s_iload (pc' := 150) X178.here hx (hb hby at_148) rfl rfl ?_
        refine s_iload (pc' := 152) X178.here hx (hb hby at_150) rfl rfl ?_
        refine s_iloadN (pc' := 153) X178.here hx (hb hby at_152) rfl rfl ?_
        refine s_icmpYes (pc' := 160) X178.here hx (hb hby at_153) (flt hkn).2.1 (by decide) (by decide) ?_
        refine s_iconst (pc' := 161) X178.here hx (v := (0 : Int32)) (hb hby at_160) rfl rfl ?_
        have hk180 : (0 : Int32) = (0 : Int32) := rfl
        refine s_icmpNo (pc' := 164) X178.here hx (hb hby at_161) (teq hk180).2 rfl ?_
        refine s_iload (pc' := 166) X178.here hx (hb hby at_164) rfl rfl ?_
        refine s_iload (pc' := 168) X178.here hx (hb hby at_166) rfl rfl ?_
        have hk181 : (0 : Int32) = (0 : Int32) := rfl
        refine s_icmpNo (pc' := 171) X178.here hx (hb hby at_168) (teq hk181).2 rfl ?_
        refine s_iconst (pc' := 172) X178.here hx (v := (1 : Int32)) (hb hby at_171) rfl rfl ?_
        refine s_goto (pc' := 176) X178.here hx (hb hby at_172) (by decide) (by decide) ?_
        obtain ⟨fs, hr, hrun, hended, hW, hsame⟩ := X178.leave (v := some (.int (1 : Int32))) (fun h => by rw [Bd.returns] at h; cases h)
        refine ⟨_, _, retN X178 hx (t := .boolean) Bd.returns (by simp) (hb hby at_176) hr, hrun, hended, _, _, rfl, ?_, ⟨_, rfl⟩, hW, hsame.mono (by decide) (by decide)⟩
        show own_rm0_Q Z p1 p2 p3 h0 n0 _ T178.heap _
        rw [eh178]
        exact ⟨rfl, N178⟩
    · subst hq_
      refine s_iload (pc' := 77) X20.here hx (hb hby at_75) rfl rfl ?_
      refine s_bipush (pc' := 79) X20.here hx (v := (8 : Int32)) (hb hby at_77) rfl rfl ?_
      refine s_iand (pc' := 80) X20.here hx (hb hby at_79) rfl ?_
      have hk182 : ((6 : Int32) &&& (8 : Int32)) = (0 : Int32) := by decide
      refine s_ifYes (pc' := 89) X20.here hx (hb hby at_80) ((if0 _ _).trans (teq hk182).1) (by decide) (by decide) ?_
      refine s_iload (pc' := 91) X20.here hx (hb hby at_89) rfl rfl ?_
      refine s_iconst (pc' := 92) X20.here hx (v := (4 : Int32)) (hb hby at_91) rfl rfl ?_
      refine s_iand (pc' := 93) X20.here hx (hb hby at_92) rfl ?_
      have hk183 : ¬ (((6 : Int32) &&& (4 : Int32)) = (0 : Int32)) := by decide
      refine s_ifNo (pc' := 96) X20.here hx (hb hby at_93) ((if0 _ _).trans (feq hk183).1) rfl ?_
      refine s_aload (pc' := 98) X20.here hx (hb hby at_96) rfl rfl rfl ?_
      refine s_callV (pc' := 101) (W := 0) X20 hx hZ  hown (hw _ (List.mem_of_getElem? (i := 20) rfl)) (hw _ (List.mem_of_getElem? (i := 21) rfl)) (hw _ (List.mem_of_getElem? (i := 4) rfl)) (hw _ (List.mem_of_getElem? (i := 24) rfl)) (hw _ (List.mem_of_getElem? (i := 23) rfl)) (hw _ (List.mem_of_getElem? (i := 22) rfl)) (by decide) eh20 f18 (own_rm4 l Z a0 hw [] ob ba ka1 n vl (0 : Int32) T16.heap n0 Z19 Fb Fp f18 f17 (by decide) n15 (by have q_ : ((0 : Int32)).toInt + 4 ≤ (6 : Int32).toInt := (by decide); omega) g_ob ne11) (by rw [hml]; rfl) [] [] rfl (lenOf own_pd5 rfl) rfl (Nat.le_of_eq rfl) (by decide) (by decide) (by decide) (by decide) rfl (hb hby at_98) fun T187 v187 Lc187 X187 hQ187 => ?_
      obtain ⟨r186, rfl, Nq187, Kq187, Fb184, Fp185⟩ := hQ187
      have N187 := Fr.app N20 Nq187
      have f188 := f17.keep Kq187 (ninS ne11 nin0)
      have f189 := f18.keep Kq187
      have Z190 : n0 ≤ T187.heap.size := Nat.le_trans Z19 Kq187.1
      show Ends p.tables e below (T187.setTop (mkF m 101 #[.val (.int p1), .val (.int p2), .val (.int p3), .val (.int n), .val (.int (6 : Int32)), .val (.ref ba), .val (.ref ob), .val (.int (1 : Int32)), .unset, .unset] [(.int r186)])) _
      refine s_pop (pc' := 102) X187.here hx (hb hby at_101) rfl rfl ?_
      refine s_iload (pc' := 104) X187.here hx (hb hby at_102) rfl rfl ?_
      refine s_iconst (pc' := 105) X187.here hx (v := (2 : Int32)) (hb hby at_104) rfl rfl ?_
      refine s_iand (pc' := 106) X187.here hx (hb hby at_105) rfl ?_
      have hk191 : ¬ (((6 : Int32) &&& (2 : Int32)) = (0 : Int32)) := by decide
      refine s_ifNo (pc' := 109) X187.here hx (hb hby at_106) ((if0 _ _).trans (feq hk191).1) rfl ?_
      refine s_aload (pc' := 111) X187.here hx (hb hby at_109) rfl rfl rfl ?_
      refine s_callV (pc' := 114) (W := 0) X187 hx hZ  hown (hw _ (List.mem_of_getElem? (i := 33) rfl)) (hw _ (List.mem_of_getElem? (i := 34) rfl)) (hw _ (List.mem_of_getElem? (i := 4) rfl)) (hw _ (List.mem_of_getElem? (i := 37) rfl)) (hw _ (List.mem_of_getElem? (i := 36) rfl)) (hw _ (List.mem_of_getElem? (i := 35) rfl)) (by decide) rfl f189 (own_rm7 l Z a0 hw [] ob ba ka1 n vl ((0 : Int32) + (4 : Int32)) T187.heap n0 Z190 Fb184 Fp185 f189 f188 (by decide) n15 (by have q_ : (((0 : Int32) + (4 : Int32))).toInt + 1 ≤ (6 : Int32).toInt := (by decide); omega) g_ob ne11) (by rw [hml]; rfl) [] [] rfl (lenOf own_pd4 rfl) rfl (Nat.le_of_eq rfl) (by decide) (by decide) (by decide) (by decide) rfl (hb hby at_111) fun T195 v195 Lc195 X195 hQ195 => ?_
      obtain ⟨r194, rfl, Nq195, Kq195, Fb192, Fp193⟩ := hQ195
      have N195 := Fr.app N187 Nq195
      have f196 := f188.keep Kq195 (ninS ne11 nin0)
      have f197 := f189.keep Kq195
      have Z198 : n0 ≤ T195.heap.size := Nat.le_trans Z190 Kq195.1
      show Ends p.tables e below (T195.setTop (mkF m 114 #[.val (.int p1), .val (.int p2), .val (.int p3), .val (.int n), .val (.int (6 : Int32)), .val (.ref ba), .val (.ref ob), .val (.int (1 : Int32)), .unset, .unset] [(.int r194)])) _
      refine s_pop (pc' := 115) X195.here hx (hb hby at_114) rfl rfl ?_
      refine s_aload (pc' := 117) X195.here hx (hb hby at_115) rfl rfl rfl ?_
      refine s_callV (pc' := 120) (W := 0) X195 hx hZ  hown (hw _ (List.mem_of_getElem? (i := 33) rfl)) (hw _ (List.mem_of_getElem? (i := 34) rfl)) (hw _ (List.mem_of_getElem? (i := 4) rfl)) (hw _ (List.mem_of_getElem? (i := 37) rfl)) (hw _ (List.mem_of_getElem? (i := 36) rfl)) (hw _ (List.mem_of_getElem? (i := 35) rfl)) (by decide) rfl f197 (own_rm7 l Z a0 hw [] ob ba ka1 n vl (((0 : Int32) + (4 : Int32)) + (1 : Int32)) T195.heap n0 Z198 Fb192 Fp193 f197 f196 (by decide) n15 (by have q_ : ((((0 : Int32) + (4 : Int32)) + (1 : Int32))).toInt + 1 ≤ (6 : Int32).toInt := (by decide); omega) g_ob ne11) (by rw [hml]; rfl) [] [] rfl (lenOf own_pd4 rfl) rfl (Nat.le_of_eq rfl) (by decide) (by decide) (by decide) (by decide) rfl (hb hby at_117) fun T202 v202 Lc202 X202 hQ202 => ?_
      obtain ⟨r201, rfl, Nq202, Kq202, Fb199, Fp200⟩ := hQ202
      have N202 := Fr.app N195 Nq202
      have f203 := f196.keep Kq202 (ninS ne11 nin0)
      have f204 := f197.keep Kq202
      have Z205 : n0 ≤ T202.heap.size := Nat.le_trans Z198 Kq202.1
      show Ends p.tables e below (T202.setTop (mkF m 120 #[.val (.int p1), .val (.int p2), .val (.int p3), .val (.int n), .val (.int (6 : Int32)), .val (.ref ba), .val (.ref ob), .val (.int (1 : Int32)), .unset, .unset] [(.int r201)])) _
      refine s_pop (pc' := 121) X202.here hx (hb hby at_120) rfl rfl ?_
      refine s_iload (pc' := 123) X202.here hx (hb hby at_121) rfl rfl ?_
      refine s_iconst (pc' := 124) X202.here hx (v := (1 : Int32)) (hb hby at_123) rfl rfl ?_
      refine s_iand (pc' := 125) X202.here hx (hb hby at_124) rfl ?_
      have hk206 : ((6 : Int32) &&& (1 : Int32)) = (0 : Int32) := by decide
      refine s_ifYes (pc' := 134) X202.here hx (hb hby at_125) ((if0 _ _).trans (teq hk206).1) (by decide) (by decide) ?_
      refine s_aload (pc' := 136) X202.here hx (hb hby at_134) rfl rfl rfl ?_
      have pk : ((((0 : Int32) + (4 : Int32)) + (1 : Int32)) + (1 : Int32)) = (6 : Int32) := by decide
      by_cases hkn : (6 : Int32) < n
      · refine s_callV (pc' := 139) (W := 0) X202 hx hZ  hown (hw _ (List.mem_of_getElem? (i := 13) rfl)) (hw _ (List.mem_of_getElem? (i := 14) rfl)) (hw _ (List.mem_of_getElem? (i := 4) rfl)) (hw _ (List.mem_of_getElem? (i := 17) rfl)) (hw _ (List.mem_of_getElem? (i := 16) rfl)) (hw _ (List.mem_of_getElem? (i := 15) rfl)) (by decide) rfl f204 (own_rm3 l Z a0 hw [] ob ba ka1 n vl ((((0 : Int32) + (4 : Int32)) + (1 : Int32)) + (1 : Int32)) T202.heap n0 Z205 Fb199 Fp200 f204 f203) (by rw [hml]; rfl) [] [] rfl (lenOf own_pd3 rfl) rfl (Nat.le_of_eq rfl) (by decide) (by decide) (by decide) (by decide) rfl (hb hby at_136) fun T207 v207 Lc207 X207 hQ207 => ?_
        obtain ⟨rfl, Nq207, eh207⟩ := hQ207
        have N207 := Fr.app N202 Nq207
        show Ends p.tables e below (T207.setTop (mkF m 139 #[.val (.int p1), .val (.int p2), .val (.int p3), .val (.int n), .val (.int (6 : Int32)), .val (.ref ba), .val (.ref ob), .val (.int (1 : Int32)), .unset, .unset] [(.int (if ((((0 : Int32) + (4 : Int32)) + (1 : Int32)) + (1 : Int32)) < n then 1 else 0))])) _
        have hr208 : (if ((((0 : Int32) + (4 : Int32)) + (1 : Int32)) + (1 : Int32)) < n then (1 : Int32) else 0) = 1 := by rw [pk]; simp only [hkn, if_true, if_false]
        rw [hr208]
        refine s_istore (pc' := 141) X207.here hx (l' := #[.val (.int p1), .val (.int p2), .val (.int p3), .val (.int n), .val (.int (6 : Int32)), .val (.ref ba), .val (.ref ob), .val (.int (1 : Int32)), .val (.int (1 : Int32)), .unset]) (hb hby at_139) rfl rfl ?_
        refine s_aload (pc' := 143) X207.here hx (hb hby at_141) rfl rfl rfl ?_
        refine s_callV (pc' := 146) (W := 0) X207 hx hZ  hown (hw _ (List.mem_of_getElem? (i := 13) rfl)) (hw _ (List.mem_of_getElem? (i := 14) rfl)) (hw _ (List.mem_of_getElem? (i := 4) rfl)) (hw _ (List.mem_of_getElem? (i := 17) rfl)) (hw _ (List.mem_of_getElem? (i := 16) rfl)) (hw _ (List.mem_of_getElem? (i := 15) rfl)) (by decide) eh207 f204 (own_rm3 l Z a0 hw [] ob ba ka1 n vl ((((0 : Int32) + (4 : Int32)) + (1 : Int32)) + (1 : Int32)) T202.heap n0 Z205 Fb199 Fp200 f204 f203) (by rw [hml]; rfl) [] [] rfl (lenOf own_pd3 rfl) rfl (Nat.le_of_eq rfl) (by decide) (by decide) (by decide) (by decide) rfl (hb hby at_143) fun T209 v209 Lc209 X209 hQ209 => ?_
        obtain ⟨rfl, Nq209, eh209⟩ := hQ209
        have N209 := Fr.app N207 Nq209
        show Ends p.tables e below (T209.setTop (mkF m 146 #[.val (.int p1), .val (.int p2), .val (.int p3), .val (.int n), .val (.int (6 : Int32)), .val (.ref ba), .val (.ref ob), .val (.int (1 : Int32)), .val (.int (1 : Int32)), .unset] [(.int (if ((((0 : Int32) + (4 : Int32)) + (1 : Int32)) + (1 : Int32)) < n then 1 else 0))])) _
        have hr210 : (if ((((0 : Int32) + (4 : Int32)) + (1 : Int32)) + (1 : Int32)) < n then (1 : Int32) else 0) = 1 := by rw [pk]; simp only [hkn, if_true, if_false]
        rw [hr210]
        refine s_istore (pc' := 148) X209.here hx (l' := #[.val (.int p1), .val (.int p2), .val (.int p3), .val (.int n), .val (.int (6 : Int32)), .val (.ref ba), .val (.ref ob), .val (.int (1 : Int32)), .val (.int (1 : Int32)), .val (.int (1 : Int32))]) (hb hby at_146) rfl rfl ?_
        refine s_iload (pc' := 150) X209.here hx (hb hby at_148) rfl rfl ?_
        refine s_iload (pc' := 152) X209.here hx (hb hby at_150) rfl rfl ?_
        refine s_iloadN (pc' := 153) X209.here hx (hb hby at_152) rfl rfl ?_
        refine s_icmpNo (pc' := 156) X209.here hx (hb hby at_153) (tlt hkn).2.1 rfl ?_
        refine s_iconst (pc' := 157) X209.here hx (v := (1 : Int32)) (hb hby at_156) rfl rfl ?_
        refine s_goto (pc' := 161) X209.here hx (hb hby at_157) (by decide) (by decide) ?_
        have hk211 : (1 : Int32) = (1 : Int32) := rfl
        refine s_icmpNo (pc' := 164) X209.here hx (hb hby at_161) (teq hk211).2 rfl ?_
        refine s_iload (pc' := 166) X209.here hx (hb hby at_164) rfl rfl ?_
        refine s_iload (pc' := 168) X209.here hx (hb hby at_166) rfl rfl ?_
        have hk212 : (1 : Int32) = (1 : Int32) := rfl
        refine s_icmpNo (pc' := 171) X209.here hx (hb hby at_168) (teq hk212).2 rfl ?_
        refine s_iconst (pc' := 172) X209.here hx (v := (1 : Int32)) (hb hby at_171) rfl rfl ?_
        refine s_goto (pc' := 176) X209.here hx (hb hby at_172) (by decide) (by decide) ?_
        obtain ⟨fs, hr, hrun, hended, hW, hsame⟩ := X209.leave (v := some (.int (1 : Int32))) (fun h => by rw [Bd.returns] at h; cases h)
        refine ⟨_, _, retN X209 hx (t := .boolean) Bd.returns (by simp) (hb hby at_176) hr, hrun, hended, _, _, rfl, ?_, ⟨_, rfl⟩, hW, hsame.mono (by decide) (by decide)⟩
        show own_rm0_Q Z p1 p2 p3 h0 n0 _ T209.heap _
        rw [eh209]
        exact ⟨rfl, N209⟩
      · refine s_callV (pc' := 139) (W := 0) X202 hx hZ  hown (hw _ (List.mem_of_getElem? (i := 13) rfl)) (hw _ (List.mem_of_getElem? (i := 14) rfl)) (hw _ (List.mem_of_getElem? (i := 4) rfl)) (hw _ (List.mem_of_getElem? (i := 17) rfl)) (hw _ (List.mem_of_getElem? (i := 16) rfl)) (hw _ (List.mem_of_getElem? (i := 15) rfl)) (by decide) rfl f204 (own_rm3 l Z a0 hw [] ob ba ka1 n vl ((((0 : Int32) + (4 : Int32)) + (1 : Int32)) + (1 : Int32)) T202.heap n0 Z205 Fb199 Fp200 f204 f203) (by rw [hml]; rfl) [] [] rfl (lenOf own_pd3 rfl) rfl (Nat.le_of_eq rfl) (by decide) (by decide) (by decide) (by decide) rfl (hb hby at_136) fun T213 v213 Lc213 X213 hQ213 => ?_
        obtain ⟨rfl, Nq213, eh213⟩ := hQ213
        have N213 := Fr.app N202 Nq213
        show Ends p.tables e below (T213.setTop (mkF m 139 #[.val (.int p1), .val (.int p2), .val (.int p3), .val (.int n), .val (.int (6 : Int32)), .val (.ref ba), .val (.ref ob), .val (.int (1 : Int32)), .unset, .unset] [(.int (if ((((0 : Int32) + (4 : Int32)) + (1 : Int32)) + (1 : Int32)) < n then 1 else 0))])) _
        have hr214 : (if ((((0 : Int32) + (4 : Int32)) + (1 : Int32)) + (1 : Int32)) < n then (1 : Int32) else 0) = 0 := by rw [pk]; simp only [hkn, if_true, if_false]
        rw [hr214]
        refine s_istore (pc' := 141) X213.here hx (l' := #[.val (.int p1), .val (.int p2), .val (.int p3), .val (.int n), .val (.int (6 : Int32)), .val (.ref ba), .val (.ref ob), .val (.int (1 : Int32)), .val (.int (0 : Int32)), .unset]) (hb hby at_139) rfl rfl ?_
        refine s_aload (pc' := 143) X213.here hx (hb hby at_141) rfl rfl rfl ?_
        refine s_callV (pc' := 146) (W := 0) X213 hx hZ  hown (hw _ (List.mem_of_getElem? (i := 13) rfl)) (hw _ (List.mem_of_getElem? (i := 14) rfl)) (hw _ (List.mem_of_getElem? (i := 4) rfl)) (hw _ (List.mem_of_getElem? (i := 17) rfl)) (hw _ (List.mem_of_getElem? (i := 16) rfl)) (hw _ (List.mem_of_getElem? (i := 15) rfl)) (by decide) eh213 f204 (own_rm3 l Z a0 hw [] ob ba ka1 n vl ((((0 : Int32) + (4 : Int32)) + (1 : Int32)) + (1 : Int32)) T202.heap n0 Z205 Fb199 Fp200 f204 f203) (by rw [hml]; rfl) [] [] rfl (lenOf own_pd3 rfl) rfl (Nat.le_of_eq rfl) (by decide) (by decide) (by decide) (by decide) rfl (hb hby at_143) fun T215 v215 Lc215 X215 hQ215 => ?_
        obtain ⟨rfl, Nq215, eh215⟩ := hQ215
        have N215 := Fr.app N213 Nq215
        show Ends p.tables e below (T215.setTop (mkF m 146 #[.val (.int p1), .val (.int p2), .val (.int p3), .val (.int n), .val (.int (6 : Int32)), .val (.ref ba), .val (.ref ob), .val (.int (1 : Int32)), .val (.int (0 : Int32)), .unset] [(.int (if ((((0 : Int32) + (4 : Int32)) + (1 : Int32)) + (1 : Int32)) < n then 1 else 0))])) _
        have hr216 : (if ((((0 : Int32) + (4 : Int32)) + (1 : Int32)) + (1 : Int32)) < n then (1 : Int32) else 0) = 0 := by rw [pk]; simp only [hkn, if_true, if_false]
        rw [hr216]
        refine s_istore (pc' := 148) X215.here hx (l' := #[.val (.int p1), .val (.int p2), .val (.int p3), .val (.int n), .val (.int (6 : Int32)), .val (.ref ba), .val (.ref ob), .val (.int (1 : Int32)), .val (.int (0 : Int32)), .val (.int (0 : Int32))]) (hb hby at_146) rfl rfl ?_
        refine s_iload (pc' := 150) X215.here hx (hb hby at_148) rfl rfl ?_
        refine s_iload (pc' := 152) X215.here hx (hb hby at_150) rfl rfl ?_
        refine s_iloadN (pc' := 153) X215.here hx (hb hby at_152) rfl rfl ?_
        refine s_icmpYes (pc' := 160) X215.here hx (hb hby at_153) (flt hkn).2.1 (by decide) (by decide) ?_
        refine s_iconst (pc' := 161) X215.here hx (v := (0 : Int32)) (hb hby at_160) rfl rfl ?_
        have hk217 : (0 : Int32) = (0 : Int32) := rfl
        refine s_icmpNo (pc' := 164) X215.here hx (hb hby at_161) (teq hk217).2 rfl ?_
        refine s_iload (pc' := 166) X215.here hx (hb hby at_164) rfl rfl ?_
        refine s_iload (pc' := 168) X215.here hx (hb hby at_166) rfl rfl ?_
        have hk218 : (0 : Int32) = (0 : Int32) := rfl
        refine s_icmpNo (pc' := 171) X215.here hx (hb hby at_168) (teq hk218).2 rfl ?_
        refine s_iconst (pc' := 172) X215.here hx (v := (1 : Int32)) (hb hby at_171) rfl rfl ?_
        refine s_goto (pc' := 176) X215.here hx (hb hby at_172) (by decide) (by decide) ?_
        obtain ⟨fs, hr, hrun, hended, hW, hsame⟩ := X215.leave (v := some (.int (1 : Int32))) (fun h => by rw [Bd.returns] at h; cases h)
        refine ⟨_, _, retN X215 hx (t := .boolean) Bd.returns (by simp) (hb hby at_176) hr, hrun, hended, _, _, rfl, ?_, ⟨_, rfl⟩, hW, hsame.mono (by decide) (by decide)⟩
        show own_rm0_Q Z p1 p2 p3 h0 n0 _ T215.heap _
        rw [eh215]
        exact ⟨rfl, N215⟩
    · subst hq_
      refine s_iload (pc' := 77) X20.here hx (hb hby at_75) rfl rfl ?_
      refine s_bipush (pc' := 79) X20.here hx (v := (8 : Int32)) (hb hby at_77) rfl rfl ?_
      refine s_iand (pc' := 80) X20.here hx (hb hby at_79) rfl ?_
      have hk219 : ((7 : Int32) &&& (8 : Int32)) = (0 : Int32) := by decide
      refine s_ifYes (pc' := 89) X20.here hx (hb hby at_80) ((if0 _ _).trans (teq hk219).1) (by decide) (by decide) ?_
      refine s_iload (pc' := 91) X20.here hx (hb hby at_89) rfl rfl ?_
      refine s_iconst (pc' := 92) X20.here hx (v := (4 : Int32)) (hb hby at_91) rfl rfl ?_
      refine s_iand (pc' := 93) X20.here hx (hb hby at_92) rfl ?_
      have hk220 : ¬ (((7 : Int32) &&& (4 : Int32)) = (0 : Int32)) := by decide
      refine s_ifNo (pc' := 96) X20.here hx (hb hby at_93) ((if0 _ _).trans (feq hk220).1) rfl ?_
      refine s_aload (pc' := 98) X20.here hx (hb hby at_96) rfl rfl rfl ?_
      refine s_callV (pc' := 101) (W := 0) X20 hx hZ  hown (hw _ (List.mem_of_getElem? (i := 20) rfl)) (hw _ (List.mem_of_getElem? (i := 21) rfl)) (hw _ (List.mem_of_getElem? (i := 4) rfl)) (hw _ (List.mem_of_getElem? (i := 24) rfl)) (hw _ (List.mem_of_getElem? (i := 23) rfl)) (hw _ (List.mem_of_getElem? (i := 22) rfl)) (by decide) eh20 f18 (own_rm4 l Z a0 hw [] ob ba ka1 n vl (0 : Int32) T16.heap n0 Z19 Fb Fp f18 f17 (by decide) n15 (by have q_ : ((0 : Int32)).toInt + 4 ≤ (7 : Int32).toInt := (by decide); omega) g_ob ne11) (by rw [hml]; rfl) [] [] rfl (lenOf own_pd5 rfl) rfl (Nat.le_of_eq rfl) (by decide) (by decide) (by decide) (by decide) rfl (hb hby at_98) fun T224 v224 Lc224 X224 hQ224 => ?_
      obtain ⟨r223, rfl, Nq224, Kq224, Fb221, Fp222⟩ := hQ224
      have N224 := Fr.app N20 Nq224
      have f225 := f17.keep Kq224 (ninS ne11 nin0)
      have f226 := f18.keep Kq224
      have Z227 : n0 ≤ T224.heap.size := Nat.le_trans Z19 Kq224.1
      show Ends p.tables e below (T224.setTop (mkF m 101 #[.val (.int p1), .val (.int p2), .val (.int p3), .val (.int n), .val (.int (7 : Int32)), .val (.ref ba), .val (.ref ob), .val (.int (1 : Int32)), .unset, .unset] [(.int r223)])) _
      refine s_pop (pc' := 102) X224.here hx (hb hby at_101) rfl rfl ?_
      refine s_iload (pc' := 104) X224.here hx (hb hby at_102) rfl rfl ?_
      refine s_iconst (pc' := 105) X224.here hx (v := (2 : Int32)) (hb hby at_104) rfl rfl ?_
      refine s_iand (pc' := 106) X224.here hx (hb hby at_105) rfl ?_
      have hk228 : ¬ (((7 : Int32) &&& (2 : Int32)) = (0 : Int32)) := by decide
      refine s_ifNo (pc' := 109) X224.here hx (hb hby at_106) ((if0 _ _).trans (feq hk228).1) rfl ?_
      refine s_aload (pc' := 111) X224.here hx (hb hby at_109) rfl rfl rfl ?_
      refine s_callV (pc' := 114) (W := 0) X224 hx hZ  hown (hw _ (List.mem_of_getElem? (i := 33) rfl)) (hw _ (List.mem_of_getElem? (i := 34) rfl)) (hw _ (List.mem_of_getElem? (i := 4) rfl)) (hw _ (List.mem_of_getElem? (i := 37) rfl)) (hw _ (List.mem_of_getElem? (i := 36) rfl)) (hw _ (List.mem_of_getElem? (i := 35) rfl)) (by decide) rfl f226 (own_rm7 l Z a0 hw [] ob ba ka1 n vl ((0 : Int32) + (4 : Int32)) T224.heap n0 Z227 Fb221 Fp222 f226 f225 (by decide) n15 (by have q_ : (((0 : Int32) + (4 : Int32))).toInt + 1 ≤ (7 : Int32).toInt := (by decide); omega) g_ob ne11) (by rw [hml]; rfl) [] [] rfl (lenOf own_pd4 rfl) rfl (Nat.le_of_eq rfl) (by decide) (by decide) (by decide) (by decide) rfl (hb hby at_111) fun T232 v232 Lc232 X232 hQ232 => ?_
      obtain ⟨r231, rfl, Nq232, Kq232, Fb229, Fp230⟩ := hQ232
      have N232 := Fr.app N224 Nq232
      have f233 := f225.keep Kq232 (ninS ne11 nin0)
      have f234 := f226.keep Kq232
      have Z235 : n0 ≤ T232.heap.size := Nat.le_trans Z227 Kq232.1
      show Ends p.tables e below (T232.setTop (mkF m 114 #[.val (.int p1), .val (.int p2), .val (.int p3), .val (.int n), .val (.int (7 : Int32)), .val (.ref ba), .val (.ref ob), .val (.int (1 : Int32)), .unset, .unset] [(.int r231)])) _
      refine s_pop (pc' := 115) X232.here hx (hb hby at_114) rfl rfl ?_
      refine s_aload (pc' := 117) X232.here hx (hb hby at_115) rfl rfl rfl ?_
      refine s_callV (pc' := 120) (W := 0) X232 hx hZ  hown (hw _ (List.mem_of_getElem? (i := 33) rfl)) (hw _ (List.mem_of_getElem? (i := 34) rfl)) (hw _ (List.mem_of_getElem? (i := 4) rfl)) (hw _ (List.mem_of_getElem? (i := 37) rfl)) (hw _ (List.mem_of_getElem? (i := 36) rfl)) (hw _ (List.mem_of_getElem? (i := 35) rfl)) (by decide) rfl f234 (own_rm7 l Z a0 hw [] ob ba ka1 n vl (((0 : Int32) + (4 : Int32)) + (1 : Int32)) T232.heap n0 Z235 Fb229 Fp230 f234 f233 (by decide) n15 (by have q_ : ((((0 : Int32) + (4 : Int32)) + (1 : Int32))).toInt + 1 ≤ (7 : Int32).toInt := (by decide); omega) g_ob ne11) (by rw [hml]; rfl) [] [] rfl (lenOf own_pd4 rfl) rfl (Nat.le_of_eq rfl) (by decide) (by decide) (by decide) (by decide) rfl (hb hby at_117) fun T239 v239 Lc239 X239 hQ239 => ?_
      obtain ⟨r238, rfl, Nq239, Kq239, Fb236, Fp237⟩ := hQ239
      have N239 := Fr.app N232 Nq239
      have f240 := f233.keep Kq239 (ninS ne11 nin0)
      have f241 := f234.keep Kq239
      have Z242 : n0 ≤ T239.heap.size := Nat.le_trans Z235 Kq239.1
      show Ends p.tables e below (T239.setTop (mkF m 120 #[.val (.int p1), .val (.int p2), .val (.int p3), .val (.int n), .val (.int (7 : Int32)), .val (.ref ba), .val (.ref ob), .val (.int (1 : Int32)), .unset, .unset] [(.int r238)])) _
      refine s_pop (pc' := 121) X239.here hx (hb hby at_120) rfl rfl ?_
      refine s_iload (pc' := 123) X239.here hx (hb hby at_121) rfl rfl ?_
      refine s_iconst (pc' := 124) X239.here hx (v := (1 : Int32)) (hb hby at_123) rfl rfl ?_
      refine s_iand (pc' := 125) X239.here hx (hb hby at_124) rfl ?_
      have hk243 : ¬ (((7 : Int32) &&& (1 : Int32)) = (0 : Int32)) := by decide
      refine s_ifNo (pc' := 128) X239.here hx (hb hby at_125) ((if0 _ _).trans (feq hk243).1) rfl ?_
      refine s_aload (pc' := 130) X239.here hx (hb hby at_128) rfl rfl rfl ?_
      refine s_callV (pc' := 133) (W := 0) X239 hx hZ  hown (hw _ (List.mem_of_getElem? (i := 33) rfl)) (hw _ (List.mem_of_getElem? (i := 34) rfl)) (hw _ (List.mem_of_getElem? (i := 4) rfl)) (hw _ (List.mem_of_getElem? (i := 37) rfl)) (hw _ (List.mem_of_getElem? (i := 36) rfl)) (hw _ (List.mem_of_getElem? (i := 35) rfl)) (by decide) rfl f241 (own_rm7 l Z a0 hw [] ob ba ka1 n vl ((((0 : Int32) + (4 : Int32)) + (1 : Int32)) + (1 : Int32)) T239.heap n0 Z242 Fb236 Fp237 f241 f240 (by decide) n15 (by have q_ : (((((0 : Int32) + (4 : Int32)) + (1 : Int32)) + (1 : Int32))).toInt + 1 ≤ (7 : Int32).toInt := (by decide); omega) g_ob ne11) (by rw [hml]; rfl) [] [] rfl (lenOf own_pd4 rfl) rfl (Nat.le_of_eq rfl) (by decide) (by decide) (by decide) (by decide) rfl (hb hby at_130) fun T247 v247 Lc247 X247 hQ247 => ?_
      obtain ⟨r246, rfl, Nq247, Kq247, Fb244, Fp245⟩ := hQ247
      have N247 := Fr.app N239 Nq247
      have f248 := f240.keep Kq247 (ninS ne11 nin0)
      have f249 := f241.keep Kq247
      have Z250 : n0 ≤ T247.heap.size := Nat.le_trans Z242 Kq247.1
      show Ends p.tables e below (T247.setTop (mkF m 133 #[.val (.int p1), .val (.int p2), .val (.int p3), .val (.int n), .val (.int (7 : Int32)), .val (.ref ba), .val (.ref ob), .val (.int (1 : Int32)), .unset, .unset] [(.int r246)])) _
      refine s_pop (pc' := 134) X247.here hx (hb hby at_133) rfl rfl ?_
      refine s_aload (pc' := 136) X247.here hx (hb hby at_134) rfl rfl rfl ?_
      have pk : (((((0 : Int32) + (4 : Int32)) + (1 : Int32)) + (1 : Int32)) + (1 : Int32)) = (7 : Int32) := by decide
      by_cases hkn : (7 : Int32) < n
      · refine s_callV (pc' := 139) (W := 0) X247 hx hZ  hown (hw _ (List.mem_of_getElem? (i := 13) rfl)) (hw _ (List.mem_of_getElem? (i := 14) rfl)) (hw _ (List.mem_of_getElem? (i := 4) rfl)) (hw _ (List.mem_of_getElem? (i := 17) rfl)) (hw _ (List.mem_of_getElem? (i := 16) rfl)) (hw _ (List.mem_of_getElem? (i := 15) rfl)) (by decide) rfl f249 (own_rm3 l Z a0 hw [] ob ba ka1 n vl (((((0 : Int32) + (4 : Int32)) + (1 : Int32)) + (1 : Int32)) + (1 : Int32)) T247.heap n0 Z250 Fb244 Fp245 f249 f248) (by rw [hml]; rfl) [] [] rfl (lenOf own_pd3 rfl) rfl (Nat.le_of_eq rfl) (by decide) (by decide) (by decide) (by decide) rfl (hb hby at_136) fun T251 v251 Lc251 X251 hQ251 => ?_
        obtain ⟨rfl, Nq251, eh251⟩ := hQ251
        have N251 := Fr.app N247 Nq251
        show Ends p.tables e below (T251.setTop (mkF m 139 #[.val (.int p1), .val (.int p2), .val (.int p3), .val (.int n), .val (.int (7 : Int32)), .val (.ref ba), .val (.ref ob), .val (.int (1 : Int32)), .unset, .unset] [(.int (if (((((0 : Int32) + (4 : Int32)) + (1 : Int32)) + (1 : Int32)) + (1 : Int32)) < n then 1 else 0))])) _
        have hr252 : (if (((((0 : Int32) + (4 : Int32)) + (1 : Int32)) + (1 : Int32)) + (1 : Int32)) < n then (1 : Int32) else 0) = 1 := by rw [pk]; simp only [hkn, if_true, if_false]
        rw [hr252]
        refine s_istore (pc' := 141) X251.here hx (l' := #[.val (.int p1), .val (.int p2), .val (.int p3), .val (.int n), .val (.int (7 : Int32)), .val (.ref ba), .val (.ref ob), .val (.int (1 : Int32)), .val (.int (1 : Int32)), .unset]) (hb hby at_139) rfl rfl ?_
        refine s_aload (pc' := 143) X251.here hx (hb hby at_141) rfl rfl rfl ?_
        refine s_callV (pc' := 146) (W := 0) X251 hx hZ  hown (hw _ (List.mem_of_getElem? (i := 13) rfl)) (hw _ (List.mem_of_getElem? (i := 14) rfl)) (hw _ (List.mem_of_getElem? (i := 4) rfl)) (hw _ (List.mem_of_getElem? (i := 17) rfl)) (hw _ (List.mem_of_getElem? (i := 16) rfl)) (hw _ (List.mem_of_getElem? (i := 15) rfl)) (by decide) eh251 f249 (own_rm3 l Z a0 hw [] ob ba ka1 n vl (((((0 : Int32) + (4 : Int32)) + (1 : Int32)) + (1 : Int32)) + (1 : Int32)) T247.heap n0 Z250 Fb244 Fp245 f249 f248) (by rw [hml]; rfl) [] [] rfl (lenOf own_pd3 rfl) rfl (Nat.le_of_eq rfl) (by decide) (by decide) (by decide) (by decide) rfl (hb hby at_143) fun T253 v253 Lc253 X253 hQ253 => ?_
        obtain ⟨rfl, Nq253, eh253⟩ := hQ253
        have N253 := Fr.app N251 Nq253
        show Ends p.tables e below (T253.setTop (mkF m 146 #[.val (.int p1), .val (.int p2), .val (.int p3), .val (.int n), .val (.int (7 : Int32)), .val (.ref ba), .val (.ref ob), .val (.int (1 : Int32)), .val (.int (1 : Int32)), .unset] [(.int (if (((((0 : Int32) + (4 : Int32)) + (1 : Int32)) + (1 : Int32)) + (1 : Int32)) < n then 1 else 0))])) _
        have hr254 : (if (((((0 : Int32) + (4 : Int32)) + (1 : Int32)) + (1 : Int32)) + (1 : Int32)) < n then (1 : Int32) else 0) = 1 := by rw [pk]; simp only [hkn, if_true, if_false]
        rw [hr254]
        refine s_istore (pc' := 148) X253.here hx (l' := #[.val (.int p1), .val (.int p2), .val (.int p3), .val (.int n), .val (.int (7 : Int32)), .val (.ref ba), .val (.ref ob), .val (.int (1 : Int32)), .val (.int (1 : Int32)), .val (.int (1 : Int32))]) (hb hby at_146) rfl rfl ?_
        refine s_iload (pc' := 150) X253.here hx (hb hby at_148) rfl rfl ?_
        refine s_iload (pc' := 152) X253.here hx (hb hby at_150) rfl rfl ?_
        refine s_iloadN (pc' := 153) X253.here hx (hb hby at_152) rfl rfl ?_
        refine s_icmpNo (pc' := 156) X253.here hx (hb hby at_153) (tlt hkn).2.1 rfl ?_
        refine s_iconst (pc' := 157) X253.here hx (v := (1 : Int32)) (hb hby at_156) rfl rfl ?_
        refine s_goto (pc' := 161) X253.here hx (hb hby at_157) (by decide) (by decide) ?_
        have hk255 : (1 : Int32) = (1 : Int32) := rfl
        refine s_icmpNo (pc' := 164) X253.here hx (hb hby at_161) (teq hk255).2 rfl ?_
        refine s_iload (pc' := 166) X253.here hx (hb hby at_164) rfl rfl ?_
        refine s_iload (pc' := 168) X253.here hx (hb hby at_166) rfl rfl ?_
        have hk256 : (1 : Int32) = (1 : Int32) := rfl
        refine s_icmpNo (pc' := 171) X253.here hx (hb hby at_168) (teq hk256).2 rfl ?_
        refine s_iconst (pc' := 172) X253.here hx (v := (1 : Int32)) (hb hby at_171) rfl rfl ?_
        refine s_goto (pc' := 176) X253.here hx (hb hby at_172) (by decide) (by decide) ?_
        obtain ⟨fs, hr, hrun, hended, hW, hsame⟩ := X253.leave (v := some (.int (1 : Int32))) (fun h => by rw [Bd.returns] at h; cases h)
        refine ⟨_, _, retN X253 hx (t := .boolean) Bd.returns (by simp) (hb hby at_176) hr, hrun, hended, _, _, rfl, ?_, ⟨_, rfl⟩, hW, hsame.mono (by decide) (by decide)⟩
        show own_rm0_Q Z p1 p2 p3 h0 n0 _ T253.heap _
        rw [eh253]
        exact ⟨rfl, N253⟩
      · refine s_callV (pc' := 139) (W := 0) X247 hx hZ  hown (hw _ (List.mem_of_getElem? (i := 13) rfl)) (hw _ (List.mem_of_getElem? (i := 14) rfl)) (hw _ (List.mem_of_getElem? (i := 4) rfl)) (hw _ (List.mem_of_getElem? (i := 17) rfl)) (hw _ (List.mem_of_getElem? (i := 16) rfl)) (hw _ (List.mem_of_getElem? (i := 15) rfl)) (by decide) rfl f249 (own_rm3 l Z a0 hw [] ob ba ka1 n vl (((((0 : Int32) + (4 : Int32)) + (1 : Int32)) + (1 : Int32)) + (1 : Int32)) T247.heap n0 Z250 Fb244 Fp245 f249 f248) (by rw [hml]; rfl) [] [] rfl (lenOf own_pd3 rfl) rfl (Nat.le_of_eq rfl) (by decide) (by decide) (by decide) (by decide) rfl (hb hby at_136) fun T257 v257 Lc257 X257 hQ257 => ?_
        obtain ⟨rfl, Nq257, eh257⟩ := hQ257
        have N257 := Fr.app N247 Nq257
        show Ends p.tables e below (T257.setTop (mkF m 139 #[.val (.int p1), .val (.int p2), .val (.int p3), .val (.int n), .val (.int (7 : Int32)), .val (.ref ba), .val (.ref ob), .val (.int (1 : Int32)), .unset, .unset] [(.int (if (((((0 : Int32) + (4 : Int32)) + (1 : Int32)) + (1 : Int32)) + (1 : Int32)) < n then 1 else 0))])) _
        have hr258 : (if (((((0 : Int32) + (4 : Int32)) + (1 : Int32)) + (1 : Int32)) + (1 : Int32)) < n then (1 : Int32) else 0) = 0 := by rw [pk]; simp only [hkn, if_true, if_false]
        rw [hr258]
        refine s_istore (pc' := 141) X257.here hx (l' := #[.val (.int p1), .val (.int p2), .val (.int p3), .val (.int n), .val (.int (7 : Int32)), .val (.ref ba), .val (.ref ob), .val (.int (1 : Int32)), .val (.int (0 : Int32)), .unset]) (hb hby at_139) rfl rfl ?_
        refine s_aload (pc' := 143) X257.here hx (hb hby at_141) rfl rfl rfl ?_
        refine s_callV (pc' := 146) (W := 0) X257 hx hZ  hown (hw _ (List.mem_of_getElem? (i := 13) rfl)) (hw _ (List.mem_of_getElem? (i := 14) rfl)) (hw _ (List.mem_of_getElem? (i := 4) rfl)) (hw _ (List.mem_of_getElem? (i := 17) rfl)) (hw _ (List.mem_of_getElem? (i := 16) rfl)) (hw _ (List.mem_of_getElem? (i := 15) rfl)) (by decide) eh257 f249 (own_rm3 l Z a0 hw [] ob ba ka1 n vl (((((0 : Int32) + (4 : Int32)) + (1 : Int32)) + (1 : Int32)) + (1 : Int32)) T247.heap n0 Z250 Fb244 Fp245 f249 f248) (by rw [hml]; rfl) [] [] rfl (lenOf own_pd3 rfl) rfl (Nat.le_of_eq rfl) (by decide) (by decide) (by decide) (by decide) rfl (hb hby at_143) fun T259 v259 Lc259 X259 hQ259 => ?_
        obtain ⟨rfl, Nq259, eh259⟩ := hQ259
        have N259 := Fr.app N257 Nq259
        show Ends p.tables e below (T259.setTop (mkF m 146 #[.val (.int p1), .val (.int p2), .val (.int p3), .val (.int n), .val (.int (7 : Int32)), .val (.ref ba), .val (.ref ob), .val (.int (1 : Int32)), .val (.int (0 : Int32)), .unset] [(.int (if (((((0 : Int32) + (4 : Int32)) + (1 : Int32)) + (1 : Int32)) + (1 : Int32)) < n then 1 else 0))])) _
        have hr260 : (if (((((0 : Int32) + (4 : Int32)) + (1 : Int32)) + (1 : Int32)) + (1 : Int32)) < n then (1 : Int32) else 0) = 0 := by rw [pk]; simp only [hkn, if_true, if_false]
        rw [hr260]
        refine s_istore (pc' := 148) X259.here hx (l' := #[.val (.int p1), .val (.int p2), .val (.int p3), .val (.int n), .val (.int (7 : Int32)), .val (.ref ba), .val (.ref ob), .val (.int (1 : Int32)), .val (.int (0 : Int32)), .val (.int (0 : Int32))]) (hb hby at_146) rfl rfl ?_
        refine s_iload (pc' := 150) X259.here hx (hb hby at_148) rfl rfl ?_
        refine s_iload (pc' := 152) X259.here hx (hb hby at_150) rfl rfl ?_
        refine s_iloadN (pc' := 153) X259.here hx (hb hby at_152) rfl rfl ?_
        refine s_icmpYes (pc' := 160) X259.here hx (hb hby at_153) (flt hkn).2.1 (by decide) (by decide) ?_
        refine s_iconst (pc' := 161) X259.here hx (v := (0 : Int32)) (hb hby at_160) rfl rfl ?_
        have hk261 : (0 : Int32) = (0 : Int32) := rfl
        refine s_icmpNo (pc' := 164) X259.here hx (hb hby at_161) (teq hk261).2 rfl ?_
        refine s_iload (pc' := 166) X259.here hx (hb hby at_164) rfl rfl ?_
        refine s_iload (pc' := 168) X259.here hx (hb hby at_166) rfl rfl ?_
        have hk262 : (0 : Int32) = (0 : Int32) := rfl
        refine s_icmpNo (pc' := 171) X259.here hx (hb hby at_168) (teq hk262).2 rfl ?_
        refine s_iconst (pc' := 172) X259.here hx (v := (1 : Int32)) (hb hby at_171) rfl rfl ?_
        refine s_goto (pc' := 176) X259.here hx (hb hby at_172) (by decide) (by decide) ?_
        obtain ⟨fs, hr, hrun, hended, hW, hsame⟩ := X259.leave (v := some (.int (1 : Int32))) (fun h => by rw [Bd.returns] at h; cases h)
        refine ⟨_, _, retN X259 hx (t := .boolean) Bd.returns (by simp) (hb hby at_176) hr, hrun, hended, _, _, rfl, ?_, ⟨_, rfl⟩, hW, hsame.mono (by decide) (by decide)⟩
        show own_rm0_Q Z p1 p2 p3 h0 n0 _ T259.heap _
        rw [eh259]
        exact ⟨rfl, N259⟩
    · subst hq_
      refine s_iload (pc' := 77) X20.here hx (hb hby at_75) rfl rfl ?_
      refine s_bipush (pc' := 79) X20.here hx (v := (8 : Int32)) (hb hby at_77) rfl rfl ?_
      refine s_iand (pc' := 80) X20.here hx (hb hby at_79) rfl ?_
      have hk263 : ¬ (((8 : Int32) &&& (8 : Int32)) = (0 : Int32)) := by decide
      refine s_ifNo (pc' := 83) X20.here hx (hb hby at_80) ((if0 _ _).trans (feq hk263).1) rfl ?_
      refine s_aload (pc' := 85) X20.here hx (hb hby at_83) rfl rfl rfl ?_
      refine s_callV (pc' := 88) (W := 0) X20 hx hZ  hown (hw _ (List.mem_of_getElem? (i := 38) rfl)) (hw _ (List.mem_of_getElem? (i := 39) rfl)) (hw _ (List.mem_of_getElem? (i := 4) rfl)) (hw _ (List.mem_of_getElem? (i := 42) rfl)) (hw _ (List.mem_of_getElem? (i := 41) rfl)) (hw _ (List.mem_of_getElem? (i := 40) rfl)) (by decide) eh20 f18 (own_rm8 l Z a0 hw [] ob ba ka1 n vl (0 : Int32) T16.heap n0 Z19 Fb Fp f18 f17 (by decide) n15 (by have q_ : ((0 : Int32)).toInt + 8 ≤ (8 : Int32).toInt := (by decide); omega) g_ob ne11) (by rw [hml]; rfl) [] [] rfl (lenOf own_pd6 rfl) rfl (Nat.le_of_eq rfl) (by decide) (by decide) (by decide) (by decide) rfl (hb hby at_85) fun T267 v267 Lc267 X267 hQ267 => ?_
      obtain ⟨r266, rfl, Nq267, Kq267, Fb264, Fp265⟩ := hQ267
      have N267 := Fr.app N20 Nq267
      have f268 := f17.keep Kq267 (ninS ne11 nin0)
      have f269 := f18.keep Kq267
      have Z270 : n0 ≤ T267.heap.size := Nat.le_trans Z19 Kq267.1
      show Ends p.tables e below (T267.setTop (mkF m 88 #[.val (.int p1), .val (.int p2), .val (.int p3), .val (.int n), .val (.int (8 : Int32)), .val (.ref ba), .val (.ref ob), .val (.int (1 : Int32)), .unset, .unset] [(.long r266)])) _
      refine s_pop2L (pc' := 89) X267.here hx (hb hby at_88) rfl ?_
      refine s_iload (pc' := 91) X267.here hx (hb hby at_89) rfl rfl ?_
      refine s_iconst (pc' := 92) X267.here hx (v := (4 : Int32)) (hb hby at_91) rfl rfl ?_
      refine s_iand (pc' := 93) X267.here hx (hb hby at_92) rfl ?_
      have hk271 : ((8 : Int32) &&& (4 : Int32)) = (0 : Int32) := by decide
      refine s_ifYes (pc' := 102) X267.here hx (hb hby at_93) ((if0 _ _).trans (teq hk271).1) (by decide) (by decide) ?_
      refine s_iload (pc' := 104) X267.here hx (hb hby at_102) rfl rfl ?_
      refine s_iconst (pc' := 105) X267.here hx (v := (2 : Int32)) (hb hby at_104) rfl rfl ?_
      refine s_iand (pc' := 106) X267.here hx (hb hby at_105) rfl ?_
      have hk272 : ((8 : Int32) &&& (2 : Int32)) = (0 : Int32) := by decide
      refine s_ifYes (pc' := 121) X267.here hx (hb hby at_106) ((if0 _ _).trans (teq hk272).1) (by decide) (by decide) ?_
      refine s_iload (pc' := 123) X267.here hx (hb hby at_121) rfl rfl ?_
      refine s_iconst (pc' := 124) X267.here hx (v := (1 : Int32)) (hb hby at_123) rfl rfl ?_
      refine s_iand (pc' := 125) X267.here hx (hb hby at_124) rfl ?_
      have hk273 : ((8 : Int32) &&& (1 : Int32)) = (0 : Int32) := by decide
      refine s_ifYes (pc' := 134) X267.here hx (hb hby at_125) ((if0 _ _).trans (teq hk273).1) (by decide) (by decide) ?_
      refine s_aload (pc' := 136) X267.here hx (hb hby at_134) rfl rfl rfl ?_
      have pk : ((0 : Int32) + (8 : Int32)) = (8 : Int32) := by decide
      by_cases hkn : (8 : Int32) < n
      · refine s_callV (pc' := 139) (W := 0) X267 hx hZ  hown (hw _ (List.mem_of_getElem? (i := 13) rfl)) (hw _ (List.mem_of_getElem? (i := 14) rfl)) (hw _ (List.mem_of_getElem? (i := 4) rfl)) (hw _ (List.mem_of_getElem? (i := 17) rfl)) (hw _ (List.mem_of_getElem? (i := 16) rfl)) (hw _ (List.mem_of_getElem? (i := 15) rfl)) (by decide) rfl f269 (own_rm3 l Z a0 hw [] ob ba ka1 n vl ((0 : Int32) + (8 : Int32)) T267.heap n0 Z270 Fb264 Fp265 f269 f268) (by rw [hml]; rfl) [] [] rfl (lenOf own_pd3 rfl) rfl (Nat.le_of_eq rfl) (by decide) (by decide) (by decide) (by decide) rfl (hb hby at_136) fun T274 v274 Lc274 X274 hQ274 => ?_
        obtain ⟨rfl, Nq274, eh274⟩ := hQ274
        have N274 := Fr.app N267 Nq274
        show Ends p.tables e below (T274.setTop (mkF m 139 #[.val (.int p1), .val (.int p2), .val (.int p3), .val (.int n), .val (.int (8 : Int32)), .val (.ref ba), .val (.ref ob), .val (.int (1 : Int32)), .unset, .unset] [(.int (if ((0 : Int32) + (8 : Int32)) < n then 1 else 0))])) _
        have hr275 : (if ((0 : Int32) + (8 : Int32)) < n then (1 : Int32) else 0) = 1 := by rw [pk]; simp only [hkn, if_true, if_false]
        rw [hr275]
        refine s_istore (pc' := 141) X274.here hx (l' := #[.val (.int p1), .val (.int p2), .val (.int p3), .val (.int n), .val (.int (8 : Int32)), .val (.ref ba), .val (.ref ob), .val (.int (1 : Int32)), .val (.int (1 : Int32)), .unset]) (hb hby at_139) rfl rfl ?_
        refine s_aload (pc' := 143) X274.here hx (hb hby at_141) rfl rfl rfl ?_
        refine s_callV (pc' := 146) (W := 0) X274 hx hZ  hown (hw _ (List.mem_of_getElem? (i := 13) rfl)) (hw _ (List.mem_of_getElem? (i := 14) rfl)) (hw _ (List.mem_of_getElem? (i := 4) rfl)) (hw _ (List.mem_of_getElem? (i := 17) rfl)) (hw _ (List.mem_of_getElem? (i := 16) rfl)) (hw _ (List.mem_of_getElem? (i := 15) rfl)) (by decide) eh274 f269 (own_rm3 l Z a0 hw [] ob ba ka1 n vl ((0 : Int32) + (8 : Int32)) T267.heap n0 Z270 Fb264 Fp265 f269 f268) (by rw [hml]; rfl) [] [] rfl (lenOf own_pd3 rfl) rfl (Nat.le_of_eq rfl) (by decide) (by decide) (by decide) (by decide) rfl (hb hby at_143) fun T276 v276 Lc276 X276 hQ276 => ?_
        obtain ⟨rfl, Nq276, eh276⟩ := hQ276
        have N276 := Fr.app N274 Nq276
        show Ends p.tables e below (T276.setTop (mkF m 146 #[.val (.int p1), .val (.int p2), .val (.int p3), .val (.int n), .val (.int (8 : Int32)), .val (.ref ba), .val (.ref ob), .val (.int (1 : Int32)), .val (.int (1 : Int32)), .unset] [(.int (if ((0 : Int32) + (8 : Int32)) < n then 1 else 0))])) _
        have hr277 : (if ((0 : Int32) + (8 : Int32)) < n then (1 : Int32) else 0) = 1 := by rw [pk]; simp only [hkn, if_true, if_false]
        rw [hr277]
        refine s_istore (pc' := 148) X276.here hx (l' := #[.val (.int p1), .val (.int p2), .val (.int p3), .val (.int n), .val (.int (8 : Int32)), .val (.ref ba), .val (.ref ob), .val (.int (1 : Int32)), .val (.int (1 : Int32)), .val (.int (1 : Int32))]) (hb hby at_146) rfl rfl ?_
        refine s_iload (pc' := 150) X276.here hx (hb hby at_148) rfl rfl ?_
        refine s_iload (pc' := 152) X276.here hx (hb hby at_150) rfl rfl ?_
        refine s_iloadN (pc' := 153) X276.here hx (hb hby at_152) rfl rfl ?_
        refine s_icmpNo (pc' := 156) X276.here hx (hb hby at_153) (tlt hkn).2.1 rfl ?_
        refine s_iconst (pc' := 157) X276.here hx (v := (1 : Int32)) (hb hby at_156) rfl rfl ?_
        refine s_goto (pc' := 161) X276.here hx (hb hby at_157) (by decide) (by decide) ?_
        have hk278 : (1 : Int32) = (1 : Int32) := rfl
        refine s_icmpNo (pc' := 164) X276.here hx (hb hby at_161) (teq hk278).2 rfl ?_
        refine s_iload (pc' := 166) X276.here hx (hb hby at_164) rfl rfl ?_
        refine s_iload (pc' := 168) X276.here hx (hb hby at_166) rfl rfl ?_
        have hk279 : (1 : Int32) = (1 : Int32) := rfl
        refine s_icmpNo (pc' := 171) X276.here hx (hb hby at_168) (teq hk279).2 rfl ?_
        refine s_iconst (pc' := 172) X276.here hx (v := (1 : Int32)) (hb hby at_171) rfl rfl ?_
        refine s_goto (pc' := 176) X276.here hx (hb hby at_172) (by decide) (by decide) ?_
        obtain ⟨fs, hr, hrun, hended, hW, hsame⟩ := X276.leave (v := some (.int (1 : Int32))) (fun h => by rw [Bd.returns] at h; cases h)
        refine ⟨_, _, retN X276 hx (t := .boolean) Bd.returns (by simp) (hb hby at_176) hr, hrun, hended, _, _, rfl, ?_, ⟨_, rfl⟩, hW, hsame.mono (by decide) (by decide)⟩
        show own_rm0_Q Z p1 p2 p3 h0 n0 _ T276.heap _
        rw [eh276]
        exact ⟨rfl, N276⟩
      · refine s_callV (pc' := 139) (W := 0) X267 hx hZ  hown (hw _ (List.mem_of_getElem? (i := 13) rfl)) (hw _ (List.mem_of_getElem? (i := 14) rfl)) (hw _ (List.mem_of_getElem? (i := 4) rfl)) (hw _ (List.mem_of_getElem? (i := 17) rfl)) (hw _ (List.mem_of_getElem? (i := 16) rfl)) (hw _ (List.mem_of_getElem? (i := 15) rfl)) (by decide) rfl f269 (own_rm3 l Z a0 hw [] ob ba ka1 n vl ((0 : Int32) + (8 : Int32)) T267.heap n0 Z270 Fb264 Fp265 f269 f268) (by rw [hml]; rfl) [] [] rfl (lenOf own_pd3 rfl) rfl (Nat.le_of_eq rfl) (by decide) (by decide) (by decide) (by decide) rfl (hb hby at_136) fun T280 v280 Lc280 X280 hQ280 => ?_
        obtain ⟨rfl, Nq280, eh280⟩ := hQ280
        have N280 := Fr.app N267 Nq280
        show Ends p.tables e below (T280.setTop (mkF m 139 #[.val (.int p1), .val (.int p2), .val (.int p3), .val (.int n), .val (.int (8 : Int32)), .val (.ref ba), .val (.ref ob), .val (.int (1 : Int32)), .unset, .unset] [(.int (if ((0 : Int32) + (8 : Int32)) < n then 1 else 0))])) _
        have hr281 : (if ((0 : Int32) + (8 : Int32)) < n then (1 : Int32) else 0) = 0 := by rw [pk]; simp only [hkn, if_true, if_false]
        rw [hr281]
        refine s_istore (pc' := 141) X280.here hx (l' := #[.val (.int p1), .val (.int p2), .val (.int p3), .val (.int n), .val (.int (8 : Int32)), .val (.ref ba), .val (.ref ob), .val (.int (1 : Int32)), .val (.int (0 : Int32)), .unset]) (hb hby at_139) rfl rfl ?_
        refine s_aload (pc' := 143) X280.here hx (hb hby at_141) rfl rfl rfl ?_
        refine s_callV (pc' := 146) (W := 0) X280 hx hZ  hown (hw _ (List.mem_of_getElem? (i := 13) rfl)) (hw _ (List.mem_of_getElem? (i := 14) rfl)) (hw _ (List.mem_of_getElem? (i := 4) rfl)) (hw _ (List.mem_of_getElem? (i := 17) rfl)) (hw _ (List.mem_of_getElem? (i := 16) rfl)) (hw _ (List.mem_of_getElem? (i := 15) rfl)) (by decide) eh280 f269 (own_rm3 l Z a0 hw [] ob ba ka1 n vl ((0 : Int32) + (8 : Int32)) T267.heap n0 Z270 Fb264 Fp265 f269 f268) (by rw [hml]; rfl) [] [] rfl (lenOf own_pd3 rfl) rfl (Nat.le_of_eq rfl) (by decide) (by decide) (by decide) (by decide) rfl (hb hby at_143) fun T282 v282 Lc282 X282 hQ282 => ?_
        obtain ⟨rfl, Nq282, eh282⟩ := hQ282
        have N282 := Fr.app N280 Nq282
        show Ends p.tables e below (T282.setTop (mkF m 146 #[.val (.int p1), .val (.int p2), .val (.int p3), .val (.int n), .val (.int (8 : Int32)), .val (.ref ba), .val (.ref ob), .val (.int (1 : Int32)), .val (.int (0 : Int32)), .unset] [(.int (if ((0 : Int32) + (8 : Int32)) < n then 1 else 0))])) _
        have hr283 : (if ((0 : Int32) + (8 : Int32)) < n then (1 : Int32) else 0) = 0 := by rw [pk]; simp only [hkn, if_true, if_false]
        rw [hr283]
        refine s_istore (pc' := 148) X282.here hx (l' := #[.val (.int p1), .val (.int p2), .val (.int p3), .val (.int n), .val (.int (8 : Int32)), .val (.ref ba), .val (.ref ob), .val (.int (1 : Int32)), .val (.int (0 : Int32)), .val (.int (0 : Int32))]) (hb hby at_146) rfl rfl ?_
        refine s_iload (pc' := 150) X282.here hx (hb hby at_148) rfl rfl ?_
        refine s_iload (pc' := 152) X282.here hx (hb hby at_150) rfl rfl ?_
        refine s_iloadN (pc' := 153) X282.here hx (hb hby at_152) rfl rfl ?_
        refine s_icmpYes (pc' := 160) X282.here hx (hb hby at_153) (flt hkn).2.1 (by decide) (by decide) ?_
        refine s_iconst (pc' := 161) X282.here hx (v := (0 : Int32)) (hb hby at_160) rfl rfl ?_
        have hk284 : (0 : Int32) = (0 : Int32) := rfl
        refine s_icmpNo (pc' := 164) X282.here hx (hb hby at_161) (teq hk284).2 rfl ?_
        refine s_iload (pc' := 166) X282.here hx (hb hby at_164) rfl rfl ?_
        refine s_iload (pc' := 168) X282.here hx (hb hby at_166) rfl rfl ?_
        have hk285 : (0 : Int32) = (0 : Int32) := rfl
        refine s_icmpNo (pc' := 171) X282.here hx (hb hby at_168) (teq hk285).2 rfl ?_
        refine s_iconst (pc' := 172) X282.here hx (v := (1 : Int32)) (hb hby at_171) rfl rfl ?_
        refine s_goto (pc' := 176) X282.here hx (hb hby at_172) (by decide) (by decide) ?_
        obtain ⟨fs, hr, hrun, hended, hW, hsame⟩ := X282.leave (v := some (.int (1 : Int32))) (fun h => by rw [Bd.returns] at h; cases h)
        refine ⟨_, _, retN X282 hx (t := .boolean) Bd.returns (by simp) (hb hby at_176) hr, hrun, hended, _, _, rfl, ?_, ⟨_, rfl⟩, hW, hsame.mono (by decide) (by decide)⟩
        show own_rm0_Q Z p1 p2 p3 h0 n0 _ T282.heap _
        rw [eh282]
        exact ⟨rfl, N282⟩
    · subst hq_
      refine s_iload (pc' := 77) X20.here hx (hb hby at_75) rfl rfl ?_
      refine s_bipush (pc' := 79) X20.here hx (v := (8 : Int32)) (hb hby at_77) rfl rfl ?_
      refine s_iand (pc' := 80) X20.here hx (hb hby at_79) rfl ?_
      have hk286 : ¬ (((9 : Int32) &&& (8 : Int32)) = (0 : Int32)) := by decide
      refine s_ifNo (pc' := 83) X20.here hx (hb hby at_80) ((if0 _ _).trans (feq hk286).1) rfl ?_
      refine s_aload (pc' := 85) X20.here hx (hb hby at_83) rfl rfl rfl ?_
      refine s_callV (pc' := 88) (W := 0) X20 hx hZ  hown (hw _ (List.mem_of_getElem? (i := 38) rfl)) (hw _ (List.mem_of_getElem? (i := 39) rfl)) (hw _ (List.mem_of_getElem? (i := 4) rfl)) (hw _ (List.mem_of_getElem? (i := 42) rfl)) (hw _ (List.mem_of_getElem? (i := 41) rfl)) (hw _ (List.mem_of_getElem? (i := 40) rfl)) (by decide) eh20 f18 (own_rm8 l Z a0 hw [] ob ba ka1 n vl (0 : Int32) T16.heap n0 Z19 Fb Fp f18 f17 (by decide) n15 (by have q_ : ((0 : Int32)).toInt + 8 ≤ (9 : Int32).toInt := (by decide); omega) g_ob ne11) (by rw [hml]; rfl) [] [] rfl (lenOf own_pd6 rfl) rfl (Nat.le_of_eq rfl) (by decide) (by decide) (by decide) (by decide) rfl (hb hby at_85) fun T290 v290 Lc290 X290 hQ290 => ?_
      obtain ⟨r289, rfl, Nq290, Kq290, Fb287, Fp288⟩ := hQ290
      have N290 := Fr.app N20 Nq290
      have f291 := f17.keep Kq290 (ninS ne11 nin0)
      have f292 := f18.keep Kq290
      have Z293 : n0 ≤ T290.heap.size := Nat.le_trans Z19 Kq290.1
      show Ends p.tables e below (T290.setTop (mkF m 88 #[.val (.int p1), .val (.int p2), .val (.int p3), .val (.int n), .val (.int (9 : Int32)), .val (.ref ba), .val (.ref ob), .val (.int (1 : Int32)), .unset, .unset] [(.long r289)])) _
      refine s_pop2L (pc' := 89) X290.here hx (hb hby at_88) rfl ?_
      refine s_iload (pc' := 91) X290.here hx (hb hby at_89) rfl rfl ?_
      refine s_iconst (pc' := 92) X290.here hx (v := (4 : Int32)) (hb hby at_91) rfl rfl ?_
      refine s_iand (pc' := 93) X290.here hx (hb hby at_92) rfl ?_
      have hk294 : ((9 : Int32) &&& (4 : Int32)) = (0 : Int32) := by decide
      refine s_ifYes (pc' := 102) X290.here hx (hb hby at_93) ((if0 _ _).trans (teq hk294).1) (by decide) (by decide) ?_
      refine s_iload (pc' := 104) X290.here hx (hb hby at_102) rfl rfl ?_
      refine s_iconst (pc' := 105) X290.here hx (v := (2 : Int32)) (hb hby at_104) rfl rfl ?_
      refine s_iand (pc' := 106) X290.here hx (hb hby at_105) rfl ?_
      have hk295 : ((9 : Int32) &&& (2 : Int32)) = (0 : Int32) := by decide
      refine s_ifYes (pc' := 121) X290.here hx (hb hby at_106) ((if0 _ _).trans (teq hk295).1) (by decide) (by decide) ?_
      refine s_iload (pc' := 123) X290.here hx (hb hby at_121) rfl rfl ?_
      refine s_iconst (pc' := 124) X290.here hx (v := (1 : Int32)) (hb hby at_123) rfl rfl ?_
      refine s_iand (pc' := 125) X290.here hx (hb hby at_124) rfl ?_
      have hk296 : ¬ (((9 : Int32) &&& (1 : Int32)) = (0 : Int32)) := by decide
      refine s_ifNo (pc' := 128) X290.here hx (hb hby at_125) ((if0 _ _).trans (feq hk296).1) rfl ?_
      refine s_aload (pc' := 130) X290.here hx (hb hby at_128) rfl rfl rfl ?_
      refine s_callV (pc' := 133) (W := 0) X290 hx hZ  hown (hw _ (List.mem_of_getElem? (i := 33) rfl)) (hw _ (List.mem_of_getElem? (i := 34) rfl)) (hw _ (List.mem_of_getElem? (i := 4) rfl)) (hw _ (List.mem_of_getElem? (i := 37) rfl)) (hw _ (List.mem_of_getElem? (i := 36) rfl)) (hw _ (List.mem_of_getElem? (i := 35) rfl)) (by decide) rfl f292 (own_rm7 l Z a0 hw [] ob ba ka1 n vl ((0 : Int32) + (8 : Int32)) T290.heap n0 Z293 Fb287 Fp288 f292 f291 (by decide) n15 (by have q_ : (((0 : Int32) + (8 : Int32))).toInt + 1 ≤ (9 : Int32).toInt := (by decide); omega) g_ob ne11) (by rw [hml]; rfl) [] [] rfl (lenOf own_pd4 rfl) rfl (Nat.le_of_eq rfl) (by decide) (by decide) (by decide) (by decide) rfl (hb hby at_130) fun T300 v300 Lc300 X300 hQ300 => ?_
      obtain ⟨r299, rfl, Nq300, Kq300, Fb297, Fp298⟩ := hQ300
      have N300 := Fr.app N290 Nq300
      have f301 := f291.keep Kq300 (ninS ne11 nin0)
      have f302 := f292.keep Kq300
      have Z303 : n0 ≤ T300.heap.size := Nat.le_trans Z293 Kq300.1
      show Ends p.tables e below (T300.setTop (mkF m 133 #[.val (.int p1), .val (.int p2), .val (.int p3), .val (.int n), .val (.int (9 : Int32)), .val (.ref ba), .val (.ref ob), .val (.int (1 : Int32)), .unset, .unset] [(.int r299)])) _
      refine s_pop (pc' := 134) X300.here hx (hb hby at_133) rfl rfl ?_
      refine s_aload (pc' := 136) X300.here hx (hb hby at_134) rfl rfl rfl ?_
      have pk : (((0 : Int32) + (8 : Int32)) + (1 : Int32)) = (9 : Int32) := by decide
      by_cases hkn : (9 : Int32) < n
      · refine s_callV (pc' := 139) (W := 0) X300 hx hZ  hown (hw _ (List.mem_of_getElem? (i := 13) rfl)) (hw _ (List.mem_of_getElem? (i := 14) rfl)) (hw _ (List.mem_of_getElem? (i := 4) rfl)) (hw _ (List.mem_of_getElem? (i := 17) rfl)) (hw _ (List.mem_of_getElem? (i := 16) rfl)) (hw _ (List.mem_of_getElem? (i := 15) rfl)) (by decide) rfl f302 (own_rm3 l Z a0 hw [] ob ba ka1 n vl (((0 : Int32) + (8 : Int32)) + (1 : Int32)) T300.heap n0 Z303 Fb297 Fp298 f302 f301) (by rw [hml]; rfl) [] [] rfl (lenOf own_pd3 rfl) rfl (Nat.le_of_eq rfl) (by decide) (by decide) (by decide) (by decide) rfl (hb hby at_136) fun T304 v304 Lc304 X304 hQ304 => ?_
        obtain ⟨rfl, Nq304, eh304⟩ := hQ304
        have N304 := Fr.app N300 Nq304
        show Ends p.tables e below (T304.setTop (mkF m 139 #[.val (.int p1), .val (.int p2), .val (.int p3), .val (.int n), .val (.int (9 : Int32)), .val (.ref ba), .val (.ref ob), .val (.int (1 : Int32)), .unset, .unset] [(.int (if (((0 : Int32) + (8 : Int32)) + (1 : Int32)) < n then 1 else 0))])) _
        have hr305 : (if (((0 : Int32) + (8 : Int32)) + (1 : Int32)) < n then (1 : Int32) else 0) = 1 := by rw [pk]; simp only [hkn, if_true, if_false]
        rw [hr305]
        refine s_istore (pc' := 141) X304.here hx (l' := #[.val (.int p1), .val (.int p2), .val (.int p3), .val (.int n), .val (.int (9 : Int32)), .val (.ref ba), .val (.ref ob), .val (.int (1 : Int32)), .val (.int (1 : Int32)), .unset]) (hb hby at_139) rfl rfl ?_
        refine s_aload (pc' := 143) X304.here hx (hb hby at_141) rfl rfl rfl ?_
        refine s_callV (pc' := 146) (W := 0) X304 hx hZ  hown (hw _ (List.mem_of_getElem? (i := 13) rfl)) (hw _ (List.mem_of_getElem? (i := 14) rfl)) (hw _ (List.mem_of_getElem? (i := 4) rfl)) (hw _ (List.mem_of_getElem? (i := 17) rfl)) (hw _ (List.mem_of_getElem? (i := 16) rfl)) (hw _ (List.mem_of_getElem? (i := 15) rfl)) (by decide) eh304 f302 (own_rm3 l Z a0 hw [] ob ba ka1 n vl (((0 : Int32) + (8 : Int32)) + (1 : Int32)) T300.heap n0 Z303 Fb297 Fp298 f302 f301) (by rw [hml]; rfl) [] [] rfl (lenOf own_pd3 rfl) rfl (Nat.le_of_eq rfl) (by decide) (by decide) (by decide) (by decide) rfl (hb hby at_143) fun T306 v306 Lc306 X306 hQ306 => ?_
        obtain ⟨rfl, Nq306, eh306⟩ := hQ306
        have N306 := Fr.app N304 Nq306
        show Ends p.tables e below (T306.setTop (mkF m 146 #[.val (.int p1), .val (.int p2), .val (.int p3), .val (.int n), .val (.int (9 : Int32)), .val (.ref ba), .val (.ref ob), .val (.int (1 : Int32)), .val (.int (1 : Int32)), .unset] [(.int (if (((0 : Int32) + (8 : Int32)) + (1 : Int32)) < n then 1 else 0))])) _
        have hr307 : (if (((0 : Int32) + (8 : Int32)) + (1 : Int32)) < n then (1 : Int32) else 0) = 1 := by rw [pk]; simp only [hkn, if_true, if_false]
        rw [hr307]
        refine s_istore (pc' := 148) X306.here hx (l' := #[.val (.int p1), .val (.int p2), .val (.int p3), .val (.int n), .val (.int (9 : Int32)), .val (.ref ba), .val (.ref ob), .val (.int (1 : Int32)), .val (.int (1 : Int32)), .val (.int (1 : Int32))]) (hb hby at_146) rfl rfl ?_
        refine s_iload (pc' := 150) X306.here hx (hb hby at_148) rfl rfl ?_
        refine s_iload (pc' := 152) X306.here hx (hb hby at_150) rfl rfl ?_
        refine s_iloadN (pc' := 153) X306.here hx (hb hby at_152) rfl rfl ?_
        refine s_icmpNo (pc' := 156) X306.here hx (hb hby at_153) (tlt hkn).2.1 rfl ?_
        refine s_iconst (pc' := 157) X306.here hx (v := (1 : Int32)) (hb hby at_156) rfl rfl ?_
        refine s_goto (pc' := 161) X306.here hx (hb hby at_157) (by decide) (by decide) ?_
        have hk308 : (1 : Int32) = (1 : Int32) := rfl
        refine s_icmpNo (pc' := 164) X306.here hx (hb hby at_161) (teq hk308).2 rfl ?_
        refine s_iload (pc' := 166) X306.here hx (hb hby at_164) rfl rfl ?_
        refine s_iload (pc' := 168) X306.here hx (hb hby at_166) rfl rfl ?_
        have hk309 : (1 : Int32) = (1 : Int32) := rfl
        refine s_icmpNo (pc' := 171) X306.here hx (hb hby at_168) (teq hk309).2 rfl ?_
        refine s_iconst (pc' := 172) X306.here hx (v := (1 : Int32)) (hb hby at_171) rfl rfl ?_
        refine s_goto (pc' := 176) X306.here hx (hb hby at_172) (by decide) (by decide) ?_
        obtain ⟨fs, hr, hrun, hended, hW, hsame⟩ := X306.leave (v := some (.int (1 : Int32))) (fun h => by rw [Bd.returns] at h; cases h)
        refine ⟨_, _, retN X306 hx (t := .boolean) Bd.returns (by simp) (hb hby at_176) hr, hrun, hended, _, _, rfl, ?_, ⟨_, rfl⟩, hW, hsame.mono (by decide) (by decide)⟩
        show own_rm0_Q Z p1 p2 p3 h0 n0 _ T306.heap _
        rw [eh306]
        exact ⟨rfl, N306⟩
      · refine s_callV (pc' := 139) (W := 0) X300 hx hZ  hown (hw _ (List.mem_of_getElem? (i := 13) rfl)) (hw _ (List.mem_of_getElem? (i := 14) rfl)) (hw _ (List.mem_of_getElem? (i := 4) rfl)) (hw _ (List.mem_of_getElem? (i := 17) rfl)) (hw _ (List.mem_of_getElem? (i := 16) rfl)) (hw _ (List.mem_of_getElem? (i := 15) rfl)) (by decide) rfl f302 (own_rm3 l Z a0 hw [] ob ba ka1 n vl (((0 : Int32) + (8 : Int32)) + (1 : Int32)) T300.heap n0 Z303 Fb297 Fp298 f302 f301) (by rw [hml]; rfl) [] [] rfl (lenOf own_pd3 rfl) rfl (Nat.le_of_eq rfl) (by decide) (by decide) (by decide) (by decide) rfl (hb hby at_136) fun T310 v310 Lc310 X310 hQ310 => ?_
        obtain ⟨rfl, Nq310, eh310⟩ := hQ310
        have N310 := Fr.app N300 Nq310
        show Ends p.tables e below (T310.setTop (mkF m 139 #[.val (.int p1), .val (.int p2), .val (.int p3), .val (.int n), .val (.int (9 : Int32)), .val (.ref ba), .val (.ref ob), .val (.int (1 : Int32)), .unset, .unset] [(.int (if (((0 : Int32) + (8 : Int32)) + (1 : Int32)) < n then 1 else 0))])) _
        have hr311 : (if (((0 : Int32) + (8 : Int32)) + (1 : Int32)) < n then (1 : Int32) else 0) = 0 := by rw [pk]; simp only [hkn, if_true, if_false]
        rw [hr311]
        refine s_istore (pc' := 141) X310.here hx (l' := #[.val (.int p1), .val (.int p2), .val (.int p3), .val (.int n), .val (.int (9 : Int32)), .val (.ref ba), .val (.ref ob), .val (.int (1 : Int32)), .val (.int (0 : Int32)), .unset]) (hb hby at_139) rfl rfl ?_
        refine s_aload (pc' := 143) X310.here hx (hb hby at_141) rfl rfl rfl ?_
        refine s_callV (pc' := 146) (W := 0) X310 hx hZ  hown (hw _ (List.mem_of_getElem? (i := 13) rfl)) (hw _ (List.mem_of_getElem? (i := 14) rfl)) (hw _ (List.mem_of_getElem? (i := 4) rfl)) (hw _ (List.mem_of_getElem? (i := 17) rfl)) (hw _ (List.mem_of_getElem? (i := 16) rfl)) (hw _ (List.mem_of_getElem? (i := 15) rfl)) (by decide) eh310 f302 (own_rm3 l Z a0 hw [] ob ba ka1 n vl (((0 : Int32) + (8 : Int32)) + (1 : Int32)) T300.heap n0 Z303 Fb297 Fp298 f302 f301) (by rw [hml]; rfl) [] [] rfl (lenOf own_pd3 rfl) rfl (Nat.le_of_eq rfl) (by decide) (by decide) (by decide) (by decide) rfl (hb hby at_143) fun T312 v312 Lc312 X312 hQ312 => ?_
        obtain ⟨rfl, Nq312, eh312⟩ := hQ312
        have N312 := Fr.app N310 Nq312
        show Ends p.tables e below (T312.setTop (mkF m 146 #[.val (.int p1), .val (.int p2), .val (.int p3), .val (.int n), .val (.int (9 : Int32)), .val (.ref ba), .val (.ref ob), .val (.int (1 : Int32)), .val (.int (0 : Int32)), .unset] [(.int (if (((0 : Int32) + (8 : Int32)) + (1 : Int32)) < n then 1 else 0))])) _
        have hr313 : (if (((0 : Int32) + (8 : Int32)) + (1 : Int32)) < n then (1 : Int32) else 0) = 0 := by rw [pk]; simp only [hkn, if_true, if_false]
        rw [hr313]
        refine s_istore (pc' := 148) X312.here hx (l' := #[.val (.int p1), .val (.int p2), .val (.int p3), .val (.int n), .val (.int (9 : Int32)), .val (.ref ba), .val (.ref ob), .val (.int (1 : Int32)), .val (.int (0 : Int32)), .val (.int (0 : Int32))]) (hb hby at_146) rfl rfl ?_
        refine s_iload (pc' := 150) X312.here hx (hb hby at_148) rfl rfl ?_
        refine s_iload (pc' := 152) X312.here hx (hb hby at_150) rfl rfl ?_
        refine s_iloadN (pc' := 153) X312.here hx (hb hby at_152) rfl rfl ?_
        refine s_icmpYes (pc' := 160) X312.here hx (hb hby at_153) (flt hkn).2.1 (by decide) (by decide) ?_
        refine s_iconst (pc' := 161) X312.here hx (v := (0 : Int32)) (hb hby at_160) rfl rfl ?_
        have hk314 : (0 : Int32) = (0 : Int32) := rfl
        refine s_icmpNo (pc' := 164) X312.here hx (hb hby at_161) (teq hk314).2 rfl ?_
        refine s_iload (pc' := 166) X312.here hx (hb hby at_164) rfl rfl ?_
        refine s_iload (pc' := 168) X312.here hx (hb hby at_166) rfl rfl ?_
        have hk315 : (0 : Int32) = (0 : Int32) := rfl
        refine s_icmpNo (pc' := 171) X312.here hx (hb hby at_168) (teq hk315).2 rfl ?_
        refine s_iconst (pc' := 172) X312.here hx (v := (1 : Int32)) (hb hby at_171) rfl rfl ?_
        refine s_goto (pc' := 176) X312.here hx (hb hby at_172) (by decide) (by decide) ?_
        obtain ⟨fs, hr, hrun, hended, hW, hsame⟩ := X312.leave (v := some (.int (1 : Int32))) (fun h => by rw [Bd.returns] at h; cases h)
        refine ⟨_, _, retN X312 hx (t := .boolean) Bd.returns (by simp) (hb hby at_176) hr, hrun, hended, _, _, rfl, ?_, ⟨_, rfl⟩, hW, hsame.mono (by decide) (by decide)⟩
        show own_rm0_Q Z p1 p2 p3 h0 n0 _ T312.heap _
        rw [eh312]
        exact ⟨rfl, N312⟩
    · subst hq_
      refine s_iload (pc' := 77) X20.here hx (hb hby at_75) rfl rfl ?_
      refine s_bipush (pc' := 79) X20.here hx (v := (8 : Int32)) (hb hby at_77) rfl rfl ?_
      refine s_iand (pc' := 80) X20.here hx (hb hby at_79) rfl ?_
      have hk316 : ¬ (((10 : Int32) &&& (8 : Int32)) = (0 : Int32)) := by decide
      refine s_ifNo (pc' := 83) X20.here hx (hb hby at_80) ((if0 _ _).trans (feq hk316).1) rfl ?_
      refine s_aload (pc' := 85) X20.here hx (hb hby at_83) rfl rfl rfl ?_
      refine s_callV (pc' := 88) (W := 0) X20 hx hZ  hown (hw _ (List.mem_of_getElem? (i := 38) rfl)) (hw _ (List.mem_of_getElem? (i := 39) rfl)) (hw _ (List.mem_of_getElem? (i := 4) rfl)) (hw _ (List.mem_of_getElem? (i := 42) rfl)) (hw _ (List.mem_of_getElem? (i := 41) rfl)) (hw _ (List.mem_of_getElem? (i := 40) rfl)) (by decide) eh20 f18 (own_rm8 l Z a0 hw [] ob ba ka1 n vl (0 : Int32) T16.heap n0 Z19 Fb Fp f18 f17 (by decide) n15 (by have q_ : ((0 : Int32)).toInt + 8 ≤ (10 : Int32).toInt := (by decide); omega) g_ob ne11) (by rw [hml]; rfl) [] [] rfl (lenOf own_pd6 rfl) rfl (Nat.le_of_eq rfl) (by decide) (by decide) (by decide) (by decide) rfl (hb hby at_85) fun T320 v320 Lc320 X320 hQ320 => ?_
      obtain ⟨r319, rfl, Nq320, Kq320, Fb317, Fp318⟩ := hQ320
      have N320 := Fr.app N20 Nq320
      have f321 := f17.keep Kq320 (ninS ne11 nin0)
      have f322 := f18.keep Kq320
      have Z323 : n0 ≤ T320.heap.size := Nat.le_trans Z19 Kq320.1
      show Ends p.tables e below (T320.setTop (mkF m 88 #[.val (.int p1), .val (.int p2), .val (.int p3), .val (.int n), .val (.int (10 : Int32)), .val (.ref ba), .val (.ref ob), .val (.int (1 : Int32)), .unset, .unset] [(.long r319)])) _
      refine s_pop2L (pc' := 89) X320.here hx (hb hby at_88) rfl ?_
      refine s_iload (pc' := 91) X320.here hx (hb hby at_89) rfl rfl ?_
      refine s_iconst (pc' := 92) X320.here hx (v := (4 : Int32)) (hb hby at_91) rfl rfl ?_
      refine s_iand (pc' := 93) X320.here hx (hb hby at_92) rfl ?_
      have hk324 : ((10 : Int32) &&& (4 : Int32)) = (0 : Int32) := by decide
      refine s_ifYes (pc' := 102) X320.here hx (hb hby at_93) ((if0 _ _).trans (teq hk324).1) (by decide) (by decide) ?_
      refine s_iload (pc' := 104) X320.here hx (hb hby at_102) rfl rfl ?_
      refine s_iconst (pc' := 105) X320.here hx (v := (2 : Int32)) (hb hby at_104) rfl rfl ?_
      refine s_iand (pc' := 106) X320.here hx (hb hby at_105) rfl ?_
      have hk325 : ¬ (((10 : Int32) &&& (2 : Int32)) = (0 : Int32)) := by decide
      refine s_ifNo (pc' := 109) X320.here hx (hb hby at_106) ((if0 _ _).trans (feq hk325).1) rfl ?_
      refine s_aload (pc' := 111) X320.here hx (hb hby at_109) rfl rfl rfl ?_
      refine s_callV (pc' := 114) (W := 0) X320 hx hZ  hown (hw _ (List.mem_of_getElem? (i := 33) rfl)) (hw _ (List.mem_of_getElem? (i := 34) rfl)) (hw _ (List.mem_of_getElem? (i := 4) rfl)) (hw _ (List.mem_of_getElem? (i := 37) rfl)) (hw _ (List.mem_of_getElem? (i := 36) rfl)) (hw _ (List.mem_of_getElem? (i := 35) rfl)) (by decide) rfl f322 (own_rm7 l Z a0 hw [] ob ba ka1 n vl ((0 : Int32) + (8 : Int32)) T320.heap n0 Z323 Fb317 Fp318 f322 f321 (by decide) n15 (by have q_ : (((0 : Int32) + (8 : Int32))).toInt + 1 ≤ (10 : Int32).toInt := (by decide); omega) g_ob ne11) (by rw [hml]; rfl) [] [] rfl (lenOf own_pd4 rfl) rfl (Nat.le_of_eq rfl) (by decide) (by decide) (by decide) (by decide) rfl (hb hby at_111) fun T329 v329 Lc329 X329 hQ329 => ?_
      obtain ⟨r328, rfl, Nq329, Kq329, Fb326, Fp327⟩ := hQ329
      have N329 := Fr.app N320 Nq329
      have f330 := f321.keep Kq329 (ninS ne11 nin0)
      have f331 := f322.keep Kq329
      have Z332 : n0 ≤ T329.heap.size := Nat.le_trans Z323 Kq329.1
      show Ends p.tables e below (T329.setTop (mkF m 114 #[.val (.int p1), .val (.int p2), .val (.int p3), .val (.int n), .val (.int (10 : Int32)), .val (.ref ba), .val (.ref ob), .val (.int (1 : Int32)), .unset, .unset] [(.int r328)])) _
      refine s_pop (pc' := 115) X329.here hx (hb hby at_114) rfl rfl ?_
      refine s_aload (pc' := 117) X329.here hx (hb hby at_115) rfl rfl rfl ?_
      refine s_callV (pc' := 120) (W := 0) X329 hx hZ  hown (hw _ (List.mem_of_getElem? (i := 33) rfl)) (hw _ (List.mem_of_getElem? (i := 34) rfl)) (hw _ (List.mem_of_getElem? (i := 4) rfl)) (hw _ (List.mem_of_getElem? (i := 37) rfl)) (hw _ (List.mem_of_getElem? (i := 36) rfl)) (hw _ (List.mem_of_getElem? (i := 35) rfl)) (by decide) rfl f331 (own_rm7 l Z a0 hw [] ob ba ka1 n vl (((0 : Int32) + (8 : Int32)) + (1 : Int32)) T329.heap n0 Z332 Fb326 Fp327 f331 f330 (by decide) n15 (by have q_ : ((((0 : Int32) + (8 : Int32)) + (1 : Int32))).toInt + 1 ≤ (10 : Int32).toInt := (by decide); omega) g_ob ne11) (by rw [hml]; rfl) [] [] rfl (lenOf own_pd4 rfl) rfl (Nat.le_of_eq rfl) (by decide) (by decide) (by decide) (by decide) rfl (hb hby at_117) fun T336 v336 Lc336 X336 hQ336 => ?_
      obtain ⟨r335, rfl, Nq336, Kq336, Fb333, Fp334⟩ := hQ336
      have N336 := Fr.app N329 Nq336
      have f337 := f330.keep Kq336 (ninS ne11 nin0)
      have f338 := f331.keep Kq336
      have Z339 : n0 ≤ T336.heap.size := Nat.le_trans Z332 Kq336.1
      show Ends p.tables e below (T336.setTop (mkF m 120 #[.val (.int p1), .val (.int p2), .val (.int p3), .val (.int n), .val (.int (10 : Int32)), .val (.ref ba), .val (.ref ob), .val (.int (1 : Int32)), .unset, .unset] [(.int r335)])) _
      refine s_pop (pc' := 121) X336.here hx (hb hby at_120) rfl rfl ?_
      refine s_iload (pc' := 123) X336.here hx (hb hby at_121) rfl rfl ?_
      refine s_iconst (pc' := 124) X336.here hx (v := (1 : Int32)) (hb hby at_123) rfl rfl ?_
      refine s_iand (pc' := 125) X336.here hx (hb hby at_124) rfl ?_
      have hk340 : ((10 : Int32) &&& (1 : Int32)) = (0 : Int32) := by decide
      refine s_ifYes (pc' := 134) X336.here hx (hb hby at_125) ((if0 _ _).trans (teq hk340).1) (by decide) (by decide) ?_
      refine s_aload (pc' := 136) X336.here hx (hb hby at_134) rfl rfl rfl ?_
      have pk : ((((0 : Int32) + (8 : Int32)) + (1 : Int32)) + (1 : Int32)) = (10 : Int32) := by decide
      by_cases hkn : (10 : Int32) < n
      · refine s_callV (pc' := 139) (W := 0) X336 hx hZ  hown (hw _ (List.mem_of_getElem? (i := 13) rfl)) (hw _ (List.mem_of_getElem? (i := 14) rfl)) (hw _ (List.mem_of_getElem? (i := 4) rfl)) (hw _ (List.mem_of_getElem? (i := 17) rfl)) (hw _ (List.mem_of_getElem? (i := 16) rfl)) (hw _ (List.mem_of_getElem? (i := 15) rfl)) (by decide) rfl f338 (own_rm3 l Z a0 hw [] ob ba ka1 n vl ((((0 : Int32) + (8 : Int32)) + (1 : Int32)) + (1 : Int32)) T336.heap n0 Z339 Fb333 Fp334 f338 f337) (by rw [hml]; rfl) [] [] rfl (lenOf own_pd3 rfl) rfl (Nat.le_of_eq rfl) (by decide) (by decide) (by decide) (by decide) rfl (hb hby at_136) fun T341 v341 Lc341 X341 hQ341 => ?_
        obtain ⟨rfl, Nq341, eh341⟩ := hQ341
        have N341 := Fr.app N336 Nq341
        show Ends p.tables e below (T341.setTop (mkF m 139 #[.val (.int p1), .val (.int p2), .val (.int p3), .val (.int n), .val (.int (10 : Int32)), .val (.ref ba), .val (.ref ob), .val (.int (1 : Int32)), .unset, .unset] [(.int (if ((((0 : Int32) + (8 : Int32)) + (1 : Int32)) + (1 : Int32)) < n then 1 else 0))])) _
        have hr342 : (if ((((0 : Int32) + (8 : Int32)) + (1 : Int32)) + (1 : Int32)) < n then (1 : Int32) else 0) = 1 := by rw [pk]; simp only [hkn, if_true, if_false]
        rw [hr342]
        refine s_istore (pc' := 141) X341.here hx (l' := #[.val (.int p1), .val (.int p2), .val (.int p3), .val (.int n), .val (.int (10 : Int32)), .val (.ref ba), .val (.ref ob), .val (.int (1 : Int32)), .val (.int (1 : Int32)), .unset]) (hb hby at_139) rfl rfl ?_
        refine s_aload (pc' := 143) X341.here hx (hb hby at_141) rfl rfl rfl ?_
        refine s_callV (pc' := 146) (W := 0) X341 hx hZ  hown (hw _ (List.mem_of_getElem? (i := 13) rfl)) (hw _ (List.mem_of_getElem? (i := 14) rfl)) (hw _ (List.mem_of_getElem? (i := 4) rfl)) (hw _ (List.mem_of_getElem? (i := 17) rfl)) (hw _ (List.mem_of_getElem? (i := 16) rfl)) (hw _ (List.mem_of_getElem? (i := 15) rfl)) (by decide) eh341 f338 (own_rm3 l Z a0 hw [] ob ba ka1 n vl ((((0 : Int32) + (8 : Int32)) + (1 : Int32)) + (1 : Int32)) T336.heap n0 Z339 Fb333 Fp334 f338 f337) (by rw [hml]; rfl) [] [] rfl (lenOf own_pd3 rfl) rfl (Nat.le_of_eq rfl) (by decide) (by decide) (by decide) (by decide) rfl (hb hby at_143) fun T343 v343 Lc343 X343 hQ343 => ?_
        obtain ⟨rfl, Nq343, eh343⟩ := hQ343
        have N343 := Fr.app N341 Nq343
        show Ends p.tables e below (T343.setTop (mkF m 146 #[.val (.int p1), .val (.int p2), .val (.int p3), .val (.int n), .val (.int (10 : Int32)), .val (.ref ba), .val (.ref ob), .val (.int (1 : Int32)), .val (.int (1 : Int32)), .unset] [(.int (if ((((0 : Int32) + (8 : Int32)) + (1 : Int32)) + (1 : Int32)) < n then 1 else 0))])) _
        have hr344 : (if ((((0 : Int32) + (8 : Int32)) + (1 : Int32)) + (1 : Int32)) < n then (1 : Int32) else 0) = 1 := by rw [pk]; simp only [hkn, if_true, if_false]
        rw [hr344]
        refine s_istore (pc' := 148) X343.here hx (l' := #[.val (.int p1), .val (.int p2), .val (.int p3), .val (.int n), .val (.int (10 : Int32)), .val (.ref ba), .val (.ref ob), .val (.int (1 : Int32)), .val (.int (1 : Int32)), .val (.int (1 : Int32))]) (hb hby at_146) rfl rfl ?_
        refine s_iload (pc' := 150) X343.here hx (hb hby at_148) rfl rfl ?_
        refine s_iload (pc' := 152) X343.here hx (hb hby at_150) rfl rfl ?_
        refine s_iloadN (pc' := 153) X343.here hx (hb hby at_152) rfl rfl ?_
        refine s_icmpNo (pc' := 156) X343.here hx (hb hby at_153) (tlt hkn).2.1 rfl ?_
        refine s_iconst (pc' := 157) X343.here hx (v := (1 : Int32)) (hb hby at_156) rfl rfl ?_
        refine s_goto (pc' := 161) X343.here hx (hb hby at_157) (by decide) (by decide) ?_
        have hk345 : (1 : Int32) = (1 : Int32) := rfl
        refine s_icmpNo (pc' := 164) X343.here hx (hb hby at_161) (teq hk345).2 rfl ?_
        refine s_iload (pc' := 166) X343.here hx (hb hby at_164) rfl rfl ?_
        refine s_iload (pc' := 168) X343.here hx (hb hby at_166) rfl rfl ?_
        have hk346 : (1 : Int32) = (1 : Int32) := rfl
        refine s_icmpNo (pc' := 171) X343.here hx (hb hby at_168) (teq hk346).2 rfl ?_
        refine s_iconst (pc' := 172) X343.here hx (v := (1 : Int32)) (hb hby at_171) rfl rfl ?_
        refine s_goto (pc' := 176) X343.here hx (hb hby at_172) (by decide) (by decide) ?_
        obtain ⟨fs, hr, hrun, hended, hW, hsame⟩ := X343.leave (v := some (.int (1 : Int32))) (fun h => by rw [Bd.returns] at h; cases h)
        refine ⟨_, _, retN X343 hx (t := .boolean) Bd.returns (by simp) (hb hby at_176) hr, hrun, hended, _, _, rfl, ?_, ⟨_, rfl⟩, hW, hsame.mono (by decide) (by decide)⟩
        show own_rm0_Q Z p1 p2 p3 h0 n0 _ T343.heap _
        rw [eh343]
        exact ⟨rfl, N343⟩
      · refine s_callV (pc' := 139) (W := 0) X336 hx hZ  hown (hw _ (List.mem_of_getElem? (i := 13) rfl)) (hw _ (List.mem_of_getElem? (i := 14) rfl)) (hw _ (List.mem_of_getElem? (i := 4) rfl)) (hw _ (List.mem_of_getElem? (i := 17) rfl)) (hw _ (List.mem_of_getElem? (i := 16) rfl)) (hw _ (List.mem_of_getElem? (i := 15) rfl)) (by decide) rfl f338 (own_rm3 l Z a0 hw [] ob ba ka1 n vl ((((0 : Int32) + (8 : Int32)) + (1 : Int32)) + (1 : Int32)) T336.heap n0 Z339 Fb333 Fp334 f338 f337) (by rw [hml]; rfl) [] [] rfl (lenOf own_pd3 rfl) rfl (Nat.le_of_eq rfl) (by decide) (by decide) (by decide) (by decide) rfl (hb hby at_136) fun T347 v347 Lc347 X347 hQ347 => ?_
        obtain ⟨rfl, Nq347, eh347⟩ := hQ347
        have N347 := Fr.app N336 Nq347
        show Ends p.tables e below (T347.setTop (mkF m 139 #[.val (.int p1), .val (.int p2), .val (.int p3), .val (.int n), .val (.int (10 : Int32)), .val (.ref ba), .val (.ref ob), .val (.int (1 : Int32)), .unset, .unset] [(.int (if ((((0 : Int32) + (8 : Int32)) + (1 : Int32)) + (1 : Int32)) < n then 1 else 0))])) _
        have hr348 : (if ((((0 : Int32) + (8 : Int32)) + (1 : Int32)) + (1 : Int32)) < n then (1 : Int32) else 0) = 0 := by rw [pk]; simp only [hkn, if_true, if_false]
        rw [hr348]
        refine s_istore (pc' := 141) X347.here hx (l' := #[.val (.int p1), .val (.int p2), .val (.int p3), .val (.int n), .val (.int (10 : Int32)), .val (.ref ba), .val (.ref ob), .val (.int (1 : Int32)), .val (.int (0 : Int32)), .unset]) (hb hby at_139) rfl rfl ?_
        refine s_aload (pc' := 143) X347.here hx (hb hby at_141) rfl rfl rfl ?_
        refine s_callV (pc' := 146) (W := 0) X347 hx hZ  hown (hw _ (List.mem_of_getElem? (i := 13) rfl)) (hw _ (List.mem_of_getElem? (i := 14) rfl)) (hw _ (List.mem_of_getElem? (i := 4) rfl)) (hw _ (List.mem_of_getElem? (i := 17) rfl)) (hw _ (List.mem_of_getElem? (i := 16) rfl)) (hw _ (List.mem_of_getElem? (i := 15) rfl)) (by decide) eh347 f338 (own_rm3 l Z a0 hw [] ob ba ka1 n vl ((((0 : Int32) + (8 : Int32)) + (1 : Int32)) + (1 : Int32)) T336.heap n0 Z339 Fb333 Fp334 f338 f337) (by rw [hml]; rfl) [] [] rfl (lenOf own_pd3 rfl) rfl (Nat.le_of_eq rfl) (by decide) (by decide) (by decide) (by decide) rfl (hb hby at_143) fun T349 v349 Lc349 X349 hQ349 => ?_
        obtain ⟨rfl, Nq349, eh349⟩ := hQ349
        have N349 := Fr.app N347 Nq349
        show Ends p.tables e below (T349.setTop (mkF m 146 #[.val (.int p1), .val (.int p2), .val (.int p3), .val (.int n), .val (.int (10 : Int32)), .val (.ref ba), .val (.ref ob), .val (.int (1 : Int32)), .val (.int (0 : Int32)), .unset] [(.int (if ((((0 : Int32) + (8 : Int32)) + (1 : Int32)) + (1 : Int32)) < n then 1 else 0))])) _
        have hr350 : (if ((((0 : Int32) + (8 : Int32)) + (1 : Int32)) + (1 : Int32)) < n then (1 : Int32) else 0) = 0 := by rw [pk]; simp only [hkn, if_true, if_false]
        rw [hr350]
        refine s_istore (pc' := 148) X349.here hx (l' := #[.val (.int p1), .val (.int p2), .val (.int p3), .val (.int n), .val (.int (10 : Int32)), .val (.ref ba), .val (.ref ob), .val (.int (1 : Int32)), .val (.int (0 : Int32)), .val (.int (0 : Int32))]) (hb hby at_146) rfl rfl ?_
        refine s_iload (pc' := 150) X349.here hx (hb hby at_148) rfl rfl ?_
        refine s_iload (pc' := 152) X349.here hx (hb hby at_150) rfl rfl ?_
        refine s_iloadN (pc' := 153) X349.here hx (hb hby at_152) rfl rfl ?_
        refine s_icmpYes (pc' := 160) X349.here hx (hb hby at_153) (flt hkn).2.1 (by decide) (by decide) ?_
        refine s_iconst (pc' := 161) X349.here hx (v := (0 : Int32)) (hb hby at_160) rfl rfl ?_
        have hk351 : (0 : Int32) = (0 : Int32) := rfl
        refine s_icmpNo (pc' := 164) X349.here hx (hb hby at_161) (teq hk351).2 rfl ?_
        refine s_iload (pc' := 166) X349.here hx (hb hby at_164) rfl rfl ?_
        refine s_iload (pc' := 168) X349.here hx (hb hby at_166) rfl rfl ?_
        have hk352 : (0 : Int32) = (0 : Int32) := rfl
        refine s_icmpNo (pc' := 171) X349.here hx (hb hby at_168) (teq hk352).2 rfl ?_
        refine s_iconst (pc' := 172) X349.here hx (v := (1 : Int32)) (hb hby at_171) rfl rfl ?_
        refine s_goto (pc' := 176) X349.here hx (hb hby at_172) (by decide) (by decide) ?_
        obtain ⟨fs, hr, hrun, hended, hW, hsame⟩ := X349.leave (v := some (.int (1 : Int32))) (fun h => by rw [Bd.returns] at h; cases h)
        refine ⟨_, _, retN X349 hx (t := .boolean) Bd.returns (by simp) (hb hby at_176) hr, hrun, hended, _, _, rfl, ?_, ⟨_, rfl⟩, hW, hsame.mono (by decide) (by decide)⟩
        show own_rm0_Q Z p1 p2 p3 h0 n0 _ T349.heap _
        rw [eh349]
        exact ⟨rfl, N349⟩
    · subst hq_
      refine s_iload (pc' := 77) X20.here hx (hb hby at_75) rfl rfl ?_
      refine s_bipush (pc' := 79) X20.here hx (v := (8 : Int32)) (hb hby at_77) rfl rfl ?_
      refine s_iand (pc' := 80) X20.here hx (hb hby at_79) rfl ?_
      have hk353 : ¬ (((11 : Int32) &&& (8 : Int32)) = (0 : Int32)) := by decide
      refine s_ifNo (pc' := 83) X20.here hx (hb hby at_80) ((if0 _ _).trans (feq hk353).1) rfl ?_
      refine s_aload (pc' := 85) X20.here hx (hb hby at_83) rfl rfl rfl ?_
      refine s_callV (pc' := 88) (W := 0) X20 hx hZ  hown (hw _ (List.mem_of_getElem? (i := 38) rfl)) (hw _ (List.mem_of_getElem? (i := 39) rfl)) (hw _ (List.mem_of_getElem? (i := 4) rfl)) (hw _ (List.mem_of_getElem? (i := 42) rfl)) (hw _ (List.mem_of_getElem? (i := 41) rfl)) (hw _ (List.mem_of_getElem? (i := 40) rfl)) (by decide) eh20 f18 (own_rm8 l Z a0 hw [] ob ba ka1 n vl (0 : Int32) T16.heap n0 Z19 Fb Fp f18 f17 (by decide) n15 (by have q_ : ((0 : Int32)).toInt + 8 ≤ (11 : Int32).toInt := (by decide); omega) g_ob ne11) (by rw [hml]; rfl) [] [] rfl (lenOf own_pd6 rfl) rfl (Nat.le_of_eq rfl) (by decide) (by decide) (by decide) (by decide) rfl (hb hby at_85) fun T357 v357 Lc357 X357 hQ357 => ?_
      obtain ⟨r356, rfl, Nq357, Kq357, Fb354, Fp355⟩ := hQ357
      have N357 := Fr.app N20 Nq357
      have f358 := f17.keep Kq357 (ninS ne11 nin0)
      have f359 := f18.keep Kq357
      have Z360 : n0 ≤ T357.heap.size := Nat.le_trans Z19 Kq357.1
      show Ends p.tables e below (T357.setTop (mkF m 88 #[.val (.int p1), .val (.int p2), .val (.int p3), .val (.int n), .val (.int (11 : Int32)), .val (.ref ba), .val (.ref ob), .val (.int (1 : Int32)), .unset, .unset] [(.long r356)])) _
      refine s_pop2L (pc' := 89) X357.here hx (hb hby at_88) rfl ?_
      refine s_iload (pc' := 91) X357.here hx (hb hby at_89) rfl rfl ?_
      refine s_iconst (pc' := 92) X357.here hx (v := (4 : Int32)) (hb hby at_91) rfl rfl ?_
      refine s_iand (pc' := 93) X357.here hx (hb hby at_92) rfl ?_
      have hk361 : ((11 : Int32) &&& (4 : Int32)) = (0 : Int32) := by decide
      refine s_ifYes (pc' := 102) X357.here hx (hb hby at_93) ((if0 _ _).trans (teq hk361).1) (by decide) (by decide) ?_
      refine s_iload (pc' := 104) X357.here hx (hb hby at_102) rfl rfl ?_
      refine s_iconst (pc' := 105) X357.here hx (v := (2 : Int32)) (hb hby at_104) rfl rfl ?_
      refine s_iand (pc' := 106) X357.here hx (hb hby at_105) rfl ?_
      have hk362 : ¬ (((11 : Int32) &&& (2 : Int32)) = (0 : Int32)) := by decide
      refine s_ifNo (pc' := 109) X357.here hx (hb hby at_106) ((if0 _ _).trans (feq hk362).1) rfl ?_
      refine s_aload (pc' := 111) X357.here hx (hb hby at_109) rfl rfl rfl ?_
      refine s_callV (pc' := 114) (W := 0) X357 hx hZ  hown (hw _ (List.mem_of_getElem? (i := 33) rfl)) (hw _ (List.mem_of_getElem? (i := 34) rfl)) (hw _ (List.mem_of_getElem? (i := 4) rfl)) (hw _ (List.mem_of_getElem? (i := 37) rfl)) (hw _ (List.mem_of_getElem? (i := 36) rfl)) (hw _ (List.mem_of_getElem? (i := 35) rfl)) (by decide) rfl f359 (own_rm7 l Z a0 hw [] ob ba ka1 n vl ((0 : Int32) + (8 : Int32)) T357.heap n0 Z360 Fb354 Fp355 f359 f358 (by decide) n15 (by have q_ : (((0 : Int32) + (8 : Int32))).toInt + 1 ≤ (11 : Int32).toInt := (by decide); omega) g_ob ne11) (by rw [hml]; rfl) [] [] rfl (lenOf own_pd4 rfl) rfl (Nat.le_of_eq rfl) (by decide) (by decide) (by decide) (by decide) rfl (hb hby at_111) fun T366 v366 Lc366 X366 hQ366 => ?_
      obtain ⟨r365, rfl, Nq366, Kq366, Fb363, Fp364⟩ := hQ366
      have N366 := Fr.app N357 Nq366
      have f367 := f358.keep Kq366 (ninS ne11 nin0)
      have f368 := f359.keep Kq366
      have Z369 : n0 ≤ T366.heap.size := Nat.le_trans Z360 Kq366.1
      show Ends p.tables e below (T366.setTop (mkF m 114 #[.val (.int p1), .val (.int p2), .val (.int p3), .val (.int n), .val (.int (11 : Int32)), .val (.ref ba), .val (.ref ob), .val (.int (1 : Int32)), .unset, .unset] [(.int r365)])) _
      refine s_pop (pc' := 115) X366.here hx (hb hby at_114) rfl rfl ?_
      refine s_aload (pc' := 117) X366.here hx (hb hby at_115) rfl rfl rfl ?_
      refine s_callV (pc' := 120) (W := 0) X366 hx hZ  hown (hw _ (List.mem_of_getElem? (i := 33) rfl)) (hw _ (List.mem_of_getElem? (i := 34) rfl)) (hw _ (List.mem_of_getElem? (i := 4) rfl)) (hw _ (List.mem_of_getElem? (i := 37) rfl)) (hw _ (List.mem_of_getElem? (i := 36) rfl)) (hw _ (List.mem_of_getElem? (i := 35) rfl)) (by decide) rfl f368 (own_rm7 l Z a0 hw [] ob ba ka1 n vl (((0 : Int32) + (8 : Int32)) + (1 : Int32)) T366.heap n0 Z369 Fb363 Fp364 f368 f367 (by decide) n15 (by have q_ : ((((0 : Int32) + (8 : Int32)) + (1 : Int32))).toInt + 1 ≤ (11 : Int32).toInt := (by decide); omega) g_ob ne11) (by rw [hml]; rfl) [] [] rfl (lenOf own_pd4 rfl) rfl (Nat.le_of_eq rfl) (by decide) (by decide) (by decide) (by decide) rfl (hb hby at_117) fun T373 v373 Lc373 X373 hQ373 => ?_
      obtain ⟨r372, rfl, Nq373, Kq373, Fb370, Fp371⟩ := hQ373
      have N373 := Fr.app N366 Nq373
      have f374 := f367.keep Kq373 (ninS ne11 nin0)
      have f375 := f368.keep Kq373
      have Z376 : n0 ≤ T373.heap.size := Nat.le_trans Z369 Kq373.1
      show Ends p.tables e below (T373.setTop (mkF m 120 #[.val (.int p1), .val (.int p2), .val (.int p3), .val (.int n), .val (.int (11 : Int32)), .val (.ref ba), .val (.ref ob), .val (.int (1 : Int32)), .unset, .unset] [(.int r372)])) _
      refine s_pop (pc' := 121) X373.here hx (hb hby at_120) rfl rfl ?_
      refine s_iload (pc' := 123) X373.here hx (hb hby at_121) rfl rfl ?_
      refine s_iconst (pc' := 124) X373.here hx (v := (1 : Int32)) (hb hby at_123) rfl rfl ?_
      refine s_iand (pc' := 125) X373.here hx (hb hby at_124) rfl ?_
      have hk377 : ¬ (((11 : Int32) &&& (1 : Int32)) = (0 : Int32)) := by decide
      refine s_ifNo (pc' := 128) X373.here hx (hb hby at_125) ((if0 _ _).trans (feq hk377).1) rfl ?_
      refine s_aload (pc' := 130) X373.here hx (hb hby at_128) rfl rfl rfl ?_
      refine s_callV (pc' := 133) (W := 0) X373 hx hZ  hown (hw _ (List.mem_of_getElem? (i := 33) rfl)) (hw _ (List.mem_of_getElem? (i := 34) rfl)) (hw _ (List.mem_of_getElem? (i := 4) rfl)) (hw _ (List.mem_of_getElem? (i := 37) rfl)) (hw _ (List.mem_of_getElem? (i := 36) rfl)) (hw _ (List.mem_of_getElem? (i := 35) rfl)) (by decide) rfl f375 (own_rm7 l Z a0 hw [] ob ba ka1 n vl ((((0 : Int32) + (8 : Int32)) + (1 : Int32)) + (1 : Int32)) T373.heap n0 Z376 Fb370 Fp371 f375 f374 (by decide) n15 (by have q_ : (((((0 : Int32) + (8 : Int32)) + (1 : Int32)) + (1 : Int32))).toInt + 1 ≤ (11 : Int32).toInt := (by decide); omega) g_ob ne11) (by rw [hml]; rfl) [] [] rfl (lenOf own_pd4 rfl) rfl (Nat.le_of_eq rfl) (by decide) (by decide) (by decide) (by decide) rfl (hb hby at_130) fun T381 v381 Lc381 X381 hQ381 => ?_
      obtain ⟨r380, rfl, Nq381, Kq381, Fb378, Fp379⟩ := hQ381
      have N381 := Fr.app N373 Nq381
      have f382 := f374.keep Kq381 (ninS ne11 nin0)
      have f383 := f375.keep Kq381
      have Z384 : n0 ≤ T381.heap.size := Nat.le_trans Z376 Kq381.1
      show Ends p.tables e below (T381.setTop (mkF m 133 #[.val (.int p1), .val (.int p2), .val (.int p3), .val (.int n), .val (.int (11 : Int32)), .val (.ref ba), .val (.ref ob), .val (.int (1 : Int32)), .unset, .unset] [(.int r380)])) _
      refine s_pop (pc' := 134) X381.here hx (hb hby at_133) rfl rfl ?_
      refine s_aload (pc' := 136) X381.here hx (hb hby at_134) rfl rfl rfl ?_
      have pk : (((((0 : Int32) + (8 : Int32)) + (1 : Int32)) + (1 : Int32)) + (1 : Int32)) = (11 : Int32) := by decide
      by_cases hkn : (11 : Int32) < n
      · refine s_callV (pc' := 139) (W := 0) X381 hx hZ  hown (hw _ (List.mem_of_getElem? (i := 13) rfl)) (hw _ (List.mem_of_getElem? (i := 14) rfl)) (hw _ (List.mem_of_getElem? (i := 4) rfl)) (hw _ (List.mem_of_getElem? (i := 17) rfl)) (hw _ (List.mem_of_getElem? (i := 16) rfl)) (hw _ (List.mem_of_getElem? (i := 15) rfl)) (by decide) rfl f383 (own_rm3 l Z a0 hw [] ob ba ka1 n vl (((((0 : Int32) + (8 : Int32)) + (1 : Int32)) + (1 : Int32)) + (1 : Int32)) T381.heap n0 Z384 Fb378 Fp379 f383 f382) (by rw [hml]; rfl) [] [] rfl (lenOf own_pd3 rfl) rfl (Nat.le_of_eq rfl) (by decide) (by decide) (by decide) (by decide) rfl (hb hby at_136) fun T385 v385 Lc385 X385 hQ385 => ?_
        obtain ⟨rfl, Nq385, eh385⟩ := hQ385
        have N385 := Fr.app N381 Nq385
        show Ends p.tables e below (T385.setTop (mkF m 139 #[.val (.int p1), .val (.int p2), .val (.int p3), .val (.int n), .val (.int (11 : Int32)), .val (.ref ba), .val (.ref ob), .val (.int (1 : Int32)), .unset, .unset] [(.int (if (((((0 : Int32) + (8 : Int32)) + (1 : Int32)) + (1 : Int32)) + (1 : Int32)) < n then 1 else 0))])) _
        have hr386 : (if (((((0 : Int32) + (8 : Int32)) + (1 : Int32)) + (1 : Int32)) + (1 : Int32)) < n then (1 : Int32) else 0) = 1 := by rw [pk]; simp only [hkn, if_true, if_false]
        rw [hr386]
        refine s_istore (pc' := 141) X385.here hx (l' := #[.val (.int p1), .val (.int p2), .val (.int p3), .val (.int n), .val (.int (11 : Int32)), .val (.ref ba), .val (.ref ob), .val (.int (1 : Int32)), .val (.int (1 : Int32)), .unset]) (hb hby at_139) rfl rfl ?_
        refine s_aload (pc' := 143) X385.here hx (hb hby at_141) rfl rfl rfl ?_
        refine s_callV (pc' := 146) (W := 0) X385 hx hZ  hown (hw _ (List.mem_of_getElem? (i := 13) rfl)) (hw _ (List.mem_of_getElem? (i := 14) rfl)) (hw _ (List.mem_of_getElem? (i := 4) rfl)) (hw _ (List.mem_of_getElem? (i := 17) rfl)) (hw _ (List.mem_of_getElem? (i := 16) rfl)) (hw _ (List.mem_of_getElem? (i := 15) rfl)) (by decide) eh385 f383 (own_rm3 l Z a0 hw [] ob ba ka1 n vl (((((0 : Int32) + (8 : Int32)) + (1 : Int32)) + (1 : Int32)) + (1 : Int32)) T381.heap n0 Z384 Fb378 Fp379 f383 f382) (by rw [hml]; rfl) [] [] rfl (lenOf own_pd3 rfl) rfl (Nat.le_of_eq rfl) (by decide) (by decide) (by decide) (by decide) rfl (hb hby at_143) fun T387 v387 Lc387 X387 hQ387 => ?_
        obtain ⟨rfl, Nq387, eh387⟩ := hQ387
        have N387 := Fr.app N385 Nq387
        show Ends p.tables e below (T387.setTop (mkF m 146 #[.val (.int p1), .val (.int p2), .val (.int p3), .val (.int n), .val (.int (11 : Int32)), .val (.ref ba), .val (.ref ob), .val (.int (1 : Int32)), .val (.int (1 : Int32)), .unset] [(.int (if (((((0 : Int32) + (8 : Int32)) + (1 : Int32)) + (1 : Int32)) + (1 : Int32)) < n then 1 else 0))])) _
        have hr388 : (if (((((0 : Int32) + (8 : Int32)) + (1 : Int32)) + (1 : Int32)) + (1 : Int32)) < n then (1 : Int32) else 0) = 1 := by rw [pk]; simp only [hkn, if_true, if_false]
        rw [hr388]
        refine s_istore (pc' := 148) X387.here hx (l' := #[.val (.int p1), .val (.int p2), .val (.int p3), .val (.int n), .val (.int (11 : Int32)), .val (.ref ba), .val (.ref ob), .val (.int (1 : Int32)), .val (.int (1 : Int32)), .val (.int (1 : Int32))]) (hb hby at_146) rfl rfl ?_
        refine s_iload (pc' := 150) X387.here hx (hb hby at_148) rfl rfl ?_
        refine s_iload (pc' := 152) X387.here hx (hb hby at_150) rfl rfl ?_
        refine s_iloadN (pc' := 153) X387.here hx (hb hby at_152) rfl rfl ?_
        refine s_icmpNo (pc' := 156) X387.here hx (hb hby at_153) (tlt hkn).2.1 rfl ?_
        refine s_iconst (pc' := 157) X387.here hx (v := (1 : Int32)) (hb hby at_156) rfl rfl ?_
        refine s_goto (pc' := 161) X387.here hx (hb hby at_157) (by decide) (by decide) ?_
        have hk389 : (1 : Int32) = (1 : Int32) := rfl
        refine s_icmpNo (pc' := 164) X387.here hx (hb hby at_161) (teq hk389).2 rfl ?_
        refine s_iload (pc' := 166) X387.here hx (hb hby at_164) rfl rfl ?_
        refine s_iload (pc' := 168) X387.here hx (hb hby at_166) rfl rfl ?_
        have hk390 : (1 : Int32) = (1 : Int32) := rfl
        refine s_icmpNo (pc' := 171) X387.here hx (hb hby at_168) (teq hk390).2 rfl ?_
        refine s_iconst (pc' := 172) X387.here hx (v := (1 : Int32)) (hb hby at_171) rfl rfl ?_
        refine s_goto (pc' := 176) X387.here hx (hb hby at_172) (by decide) (by decide) ?_
        obtain ⟨fs, hr, hrun, hended, hW, hsame⟩ := X387.leave (v := some (.int (1 : Int32))) (fun h => by rw [Bd.returns] at h; cases h)
        refine ⟨_, _, retN X387 hx (t := .boolean) Bd.returns (by simp) (hb hby at_176) hr, hrun, hended, _, _, rfl, ?_, ⟨_, rfl⟩, hW, hsame.mono (by decide) (by decide)⟩
        show own_rm0_Q Z p1 p2 p3 h0 n0 _ T387.heap _
        rw [eh387]
        exact ⟨rfl, N387⟩
      · refine s_callV (pc' := 139) (W := 0) X381 hx hZ  hown (hw _ (List.mem_of_getElem? (i := 13) rfl)) (hw _ (List.mem_of_getElem? (i := 14) rfl)) (hw _ (List.mem_of_getElem? (i := 4) rfl)) (hw _ (List.mem_of_getElem? (i := 17) rfl)) (hw _ (List.mem_of_getElem? (i := 16) rfl)) (hw _ (List.mem_of_getElem? (i := 15) rfl)) (by decide) rfl f383 (own_rm3 l Z a0 hw [] ob ba ka1 n vl (((((0 : Int32) + (8 : Int32)) + (1 : Int32)) + (1 : Int32)) + (1 : Int32)) T381.heap n0 Z384 Fb378 Fp379 f383 f382) (by rw [hml]; rfl) [] [] rfl (lenOf own_pd3 rfl) rfl (Nat.le_of_eq rfl) (by decide) (by decide) (by decide) (by decide) rfl (hb hby at_136) fun T391 v391 Lc391 X391 hQ391 => ?_
        obtain ⟨rfl, Nq391, eh391⟩ := hQ391
        have N391 := Fr.app N381 Nq391
        show Ends p.tables e below (T391.setTop (mkF m 139 #[.val (.int p1), .val (.int p2), .val (.int p3), .val (.int n), .val (.int (11 : Int32)), .val (.ref ba), .val (.ref ob), .val (.int (1 : Int32)), .unset, .unset] [(.int (if (((((0 : Int32) + (8 : Int32)) + (1 : Int32)) + (1 : Int32)) + (1 : Int32)) < n then 1 else 0))])) _
        have hr392 : (if (((((0 : Int32) + (8 : Int32)) + (1 : Int32)) + (1 : Int32)) + (1 : Int32)) < n then (1 : Int32) else 0) = 0 := by rw [pk]; simp only [hkn, if_true, if_false]
        rw [hr392]
        refine s_istore (pc' := 141) X391.here hx (l' := #[.val (.int p1), .val (.int p2), .val (.int p3), .val (.int n), .val (.int (11 : Int32)), .val (.ref ba), .val (.ref ob), .val (.int (1 : Int32)), .val (.int (0 : Int32)), .unset]) (hb hby at_139) rfl rfl ?_
        refine s_aload (pc' := 143) X391.here hx (hb hby at_141) rfl rfl rfl ?_
        refine s_callV (pc' := 146) (W := 0) X391 hx hZ  hown (hw _ (List.mem_of_getElem? (i := 13) rfl)) (hw _ (List.mem_of_getElem? (i := 14) rfl)) (hw _ (List.mem_of_getElem? (i := 4) rfl)) (hw _ (List.mem_of_getElem? (i := 17) rfl)) (hw _ (List.mem_of_getElem? (i := 16) rfl)) (hw _ (List.mem_of_getElem? (i := 15) rfl)) (by decide) eh391 f383 (own_rm3 l Z a0 hw [] ob ba ka1 n vl (((((0 : Int32) + (8 : Int32)) + (1 : Int32)) + (1 : Int32)) + (1 : Int32)) T381.heap n0 Z384 Fb378 Fp379 f383 f382) (by rw [hml]; rfl) [] [] rfl (lenOf own_pd3 rfl) rfl (Nat.le_of_eq rfl) (by decide) (by decide) (by decide) (by decide) rfl (hb hby at_143) fun T393 v393 Lc393 X393 hQ393 => ?_
        obtain ⟨rfl, Nq393, eh393⟩ := hQ393
        have N393 := Fr.app N391 Nq393
        show Ends p.tables e below (T393.setTop (mkF m 146 #[.val (.int p1), .val (.int p2), .val (.int p3), .val (.int n), .val (.int (11 : Int32)), .val (.ref ba), .val (.ref ob), .val (.int (1 : Int32)), .val (.int (0 : Int32)), .unset] [(.int (if (((((0 : Int32) + (8 : Int32)) + (1 : Int32)) + (1 : Int32)) + (1 : Int32)) < n then 1 else 0))])) _
        have hr394 : (if (((((0 : Int32) + (8 : Int32)) + (1 : Int32)) + (1 : Int32)) + (1 : Int32)) < n then (1 : Int32) else 0) = 0 := by rw [pk]; simp only [hkn, if_true, if_false]
        rw [hr394]
        refine s_istore (pc' := 148) X393.here hx (l' := #[.val (.int p1), .val (.int p2), .val (.int p3), .val (.int n), .val (.int (11 : Int32)), .val (.ref ba), .val (.ref ob), .val (.int (1 : Int32)), .val (.int (0 : Int32)), .val (.int (0 : Int32))]) (hb hby at_146) rfl rfl ?_
        refine s_iload (pc' := 150) X393.here hx (hb hby at_148) rfl rfl ?_
        refine s_iload (pc' := 152) X393.here hx (hb hby at_150) rfl rfl ?_
        refine s_iloadN (pc' := 153) X393.here hx (hb hby at_152) rfl rfl ?_
        refine s_icmpYes (pc' := 160) X393.here hx (hb hby at_153) (flt hkn).2.1 (by decide) (by decide) ?_
        refine s_iconst (pc' := 161) X393.here hx (v := (0 : Int32)) (hb hby at_160) rfl rfl ?_
        have hk395 : (0 : Int32) = (0 : Int32) := rfl
        refine s_icmpNo (pc' := 164) X393.here hx (hb hby at_161) (teq hk395).2 rfl ?_
        refine s_iload (pc' := 166) X393.here hx (hb hby at_164) rfl rfl ?_
        refine s_iload (pc' := 168) X393.here hx (hb hby at_166) rfl rfl ?_
        have hk396 : (0 : Int32) = (0 : Int32) := rfl
        refine s_icmpNo (pc' := 171) X393.here hx (hb hby at_168) (teq hk396).2 rfl ?_
        refine s_iconst (pc' := 172) X393.here hx (v := (1 : Int32)) (hb hby at_171) rfl rfl ?_
        refine s_goto (pc' := 176) X393.here hx (hb hby at_172) (by decide) (by decide) ?_
        obtain ⟨fs, hr, hrun, hended, hW, hsame⟩ := X393.leave (v := some (.int (1 : Int32))) (fun h => by rw [Bd.returns] at h; cases h)
        refine ⟨_, _, retN X393 hx (t := .boolean) Bd.returns (by simp) (hb hby at_176) hr, hrun, hended, _, _, rfl, ?_, ⟨_, rfl⟩, hW, hsame.mono (by decide) (by decide)⟩
        show own_rm0_Q Z p1 p2 p3 h0 n0 _ T393.heap _
        rw [eh393]
        exact ⟨rfl, N393⟩
    · subst hq_
      refine s_iload (pc' := 77) X20.here hx (hb hby at_75) rfl rfl ?_
      refine s_bipush (pc' := 79) X20.here hx (v := (8 : Int32)) (hb hby at_77) rfl rfl ?_
      refine s_iand (pc' := 80) X20.here hx (hb hby at_79) rfl ?_
      have hk397 : ¬ (((12 : Int32) &&& (8 : Int32)) = (0 : Int32)) := by decide
      refine s_ifNo (pc' := 83) X20.here hx (hb hby at_80) ((if0 _ _).trans (feq hk397).1) rfl ?_
      refine s_aload (pc' := 85) X20.here hx (hb hby at_83) rfl rfl rfl ?_
      refine s_callV (pc' := 88) (W := 0) X20 hx hZ  hown (hw _ (List.mem_of_getElem? (i := 38) rfl)) (hw _ (List.mem_of_getElem? (i := 39) rfl)) (hw _ (List.mem_of_getElem? (i := 4) rfl)) (hw _ (List.mem_of_getElem? (i := 42) rfl)) (hw _ (List.mem_of_getElem? (i := 41) rfl)) (hw _ (List.mem_of_getElem? (i := 40) rfl)) (by decide) eh20 f18 (own_rm8 l Z a0 hw [] ob ba ka1 n vl (0 : Int32) T16.heap n0 Z19 Fb Fp f18 f17 (by decide) n15 (by have q_ : ((0 : Int32)).toInt + 8 ≤ (12 : Int32).toInt := (by decide); omega) g_ob ne11) (by rw [hml]; rfl) [] [] rfl (lenOf own_pd6 rfl) rfl (Nat.le_of_eq rfl) (by decide) (by decide) (by decide) (by decide) rfl (hb hby at_85) fun T401 v401 Lc401 X401 hQ401 => ?_
      obtain ⟨r400, rfl, Nq401, Kq401, Fb398, Fp399⟩ := hQ401
      have N401 := Fr.app N20 Nq401
      have f402 := f17.keep Kq401 (ninS ne11 nin0)
      have f403 := f18.keep Kq401
      have Z404 : n0 ≤ T401.heap.size := Nat.le_trans Z19 Kq401.1
      show Ends p.tables e below (T401.setTop (mkF m 88 #[.val (.int p1), .val (.int p2), .val (.int p3), .val (.int n), .val (.int (12 : Int32)), .val (.ref ba), .val (.ref ob), .val (.int (1 : Int32)), .unset, .unset] [(.long r400)])) _
      refine s_pop2L (pc' := 89) X401.here hx (hb hby at_88) rfl ?_
      refine s_iload (pc' := 91) X401.here hx (hb hby at_89) rfl rfl ?_
      refine s_iconst (pc' := 92) X401.here hx (v := (4 : Int32)) (hb hby at_91) rfl rfl ?_
      refine s_iand (pc' := 93) X401.here hx (hb hby at_92) rfl ?_
      have hk405 : ¬ (((12 : Int32) &&& (4 : Int32)) = (0 : Int32)) := by decide
      refine s_ifNo (pc' := 96) X401.here hx (hb hby at_93) ((if0 _ _).trans (feq hk405).1) rfl ?_
      refine s_aload (pc' := 98) X401.here hx (hb hby at_96) rfl rfl rfl ?_
      refine s_callV (pc' := 101) (W := 0) X401 hx hZ  hown (hw _ (List.mem_of_getElem? (i := 20) rfl)) (hw _ (List.mem_of_getElem? (i := 21) rfl)) (hw _ (List.mem_of_getElem? (i := 4) rfl)) (hw _ (List.mem_of_getElem? (i := 24) rfl)) (hw _ (List.mem_of_getElem? (i := 23) rfl)) (hw _ (List.mem_of_getElem? (i := 22) rfl)) (by decide) rfl f403 (own_rm4 l Z a0 hw [] ob ba ka1 n vl ((0 : Int32) + (8 : Int32)) T401.heap n0 Z404 Fb398 Fp399 f403 f402 (by decide) n15 (by have q_ : (((0 : Int32) + (8 : Int32))).toInt + 4 ≤ (12 : Int32).toInt := (by decide); omega) g_ob ne11) (by rw [hml]; rfl) [] [] rfl (lenOf own_pd5 rfl) rfl (Nat.le_of_eq rfl) (by decide) (by decide) (by decide) (by decide) rfl (hb hby at_98) fun T409 v409 Lc409 X409 hQ409 => ?_
      obtain ⟨r408, rfl, Nq409, Kq409, Fb406, Fp407⟩ := hQ409
      have N409 := Fr.app N401 Nq409
      have f410 := f402.keep Kq409 (ninS ne11 nin0)
      have f411 := f403.keep Kq409
      have Z412 : n0 ≤ T409.heap.size := Nat.le_trans Z404 Kq409.1
      show Ends p.tables e below (T409.setTop (mkF m 101 #[.val (.int p1), .val (.int p2), .val (.int p3), .val (.int n), .val (.int (12 : Int32)), .val (.ref ba), .val (.ref ob), .val (.int (1 : Int32)), .unset, .unset] [(.int r408)])) _
      refine s_pop (pc' := 102) X409.here hx (hb hby at_101) rfl rfl ?_
      refine s_iload (pc' := 104) X409.here hx (hb hby at_102) rfl rfl ?_
      refine s_iconst (pc' := 105) X409.here hx (v := (2 : Int32)) (hb hby at_104) rfl rfl ?_
      refine s_iand (pc' := 106) X409.here hx (hb hby at_105) rfl ?_
      have hk413 : ((12 : Int32) &&& (2 : Int32)) = (0 : Int32) := by decide
      refine s_ifYes (pc' := 121) X409.here hx (hb hby at_106) ((if0 _ _).trans (teq hk413).1) (by decide) (by decide) ?_
      refine s_iload (pc' := 123) X409.here hx (hb hby at_121) rfl rfl ?_
      refine s_iconst (pc' := 124) X409.here hx (v := (1 : Int32)) (hb hby at_123) rfl rfl ?_
      refine s_iand (pc' := 125) X409.here hx (hb hby at_124) rfl ?_
      have hk414 : ((12 : Int32) &&& (1 : Int32)) = (0 : Int32) := by decide
      refine s_ifYes (pc' := 134) X409.here hx (hb hby at_125) ((if0 _ _).trans (teq hk414).1) (by decide) (by decide) ?_
      refine s_aload (pc' := 136) X409.here hx (hb hby at_134) rfl rfl rfl ?_
      have pk : (((0 : Int32) + (8 : Int32)) + (4 : Int32)) = (12 : Int32) := by decide
      by_cases hkn : (12 : Int32) < n
      · refine s_callV (pc' := 139) (W := 0) X409 hx hZ  hown (hw _ (List.mem_of_getElem? (i := 13) rfl)) (hw _ (List.mem_of_getElem? (i := 14) rfl)) (hw _ (List.mem_of_getElem? (i := 4) rfl)) (hw _ (List.mem_of_getElem? (i := 17) rfl)) (hw _ (List.mem_of_getElem? (i := 16) rfl)) (hw _ (List.mem_of_getElem? (i := 15) rfl)) (by decide) rfl f411 (own_rm3 l Z a0 hw [] ob ba ka1 n vl (((0 : Int32) + (8 : Int32)) + (4 : Int32)) T409.heap n0 Z412 Fb406 Fp407 f411 f410) (by rw [hml]; rfl) [] [] rfl (lenOf own_pd3 rfl) rfl (Nat.le_of_eq rfl) (by decide) (by decide) (by decide) (by decide) rfl (hb hby at_136) fun T415 v415 Lc415 X415 hQ415 => ?_
        obtain ⟨rfl, Nq415, eh415⟩ := hQ415
        have N415 := Fr.app N409 Nq415
        show Ends p.tables e below (T415.setTop (mkF m 139 #[.val (.int p1), .val (.int p2), .val (.int p3), .val (.int n), .val (.int (12 : Int32)), .val (.ref ba), .val (.ref ob), .val (.int (1 : Int32)), .unset, .unset] [(.int (if (((0 : Int32) + (8 : Int32)) + (4 : Int32)) < n then 1 else 0))])) _
        have hr416 : (if (((0 : Int32) + (8 : Int32)) + (4 : Int32)) < n then (1 : Int32) else 0) = 1 := by rw [pk]; simp only [hkn, if_true, if_false]
        rw [hr416]
        refine s_istore (pc' := 141) X415.here hx (l' := #[.val (.int p1), .val (.int p2), .val (.int p3), .val (.int n), .val (.int (12 : Int32)), .val (.ref ba), .val (.ref ob), .val (.int (1 : Int32)), .val (.int (1 : Int32)), .unset]) (hb hby at_139) rfl rfl ?_
        refine s_aload (pc' := 143) X415.here hx (hb hby at_141) rfl rfl rfl ?_
        refine s_callV (pc' := 146) (W := 0) X415 hx hZ  hown (hw _ (List.mem_of_getElem? (i := 13) rfl)) (hw _ (List.mem_of_getElem? (i := 14) rfl)) (hw _ (List.mem_of_getElem? (i := 4) rfl)) (hw _ (List.mem_of_getElem? (i := 17) rfl)) (hw _ (List.mem_of_getElem? (i := 16) rfl)) (hw _ (List.mem_of_getElem? (i := 15) rfl)) (by decide) eh415 f411 (own_rm3 l Z a0 hw [] ob ba ka1 n vl (((0 : Int32) + (8 : Int32)) + (4 : Int32)) T409.heap n0 Z412 Fb406 Fp407 f411 f410) (by rw [hml]; rfl) [] [] rfl (lenOf own_pd3 rfl) rfl (Nat.le_of_eq rfl) (by decide) (by decide) (by decide) (by decide) rfl (hb hby at_143) fun T417 v417 Lc417 X417 hQ417 => ?_
        obtain ⟨rfl, Nq417, eh417⟩ := hQ417
        have N417 := Fr.app N415 Nq417
        show Ends p.tables e below (T417.setTop (mkF m 146 #[.val (.int p1), .val (.int p2), .val (.int p3), .val (.int n), .val (.int (12 : Int32)), .val (.ref ba), .val (.ref ob), .val (.int (1 : Int32)), .val (.int (1 : Int32)), .unset] [(.int (if (((0 : Int32) + (8 : Int32)) + (4 : Int32)) < n then 1 else 0))])) _
        have hr418 : (if (((0 : Int32) + (8 : Int32)) + (4 : Int32)) < n then (1 : Int32) else 0) = 1 := by rw [pk]; simp only [hkn, if_true, if_false]
        rw [hr418]
        refine s_istore (pc' := 148) X417.here hx (l' := #[.val (.int p1), .val (.int p2), .val (.int p3), .val (.int n), .val (.int (12 : Int32)), .val (.ref ba), .val (.ref ob), .val (.int (1 : Int32)), .val (.int (1 : Int32)), .val (.int (1 : Int32))]) (hb hby at_146) rfl rfl ?_
        refine s_iload (pc' := 150) X417.here hx (hb hby at_148) rfl rfl ?_
        refine s_iload (pc' := 152) X417.here hx (hb hby at_150) rfl rfl ?_
        refine s_iloadN (pc' := 153) X417.here hx (hb hby at_152) rfl rfl ?_
        refine s_icmpNo (pc' := 156) X417.here hx (hb hby at_153) (tlt hkn).2.1 rfl ?_
        refine s_iconst (pc' := 157) X417.here hx (v := (1 : Int32)) (hb hby at_156) rfl rfl ?_
        refine s_goto (pc' := 161) X417.here hx (hb hby at_157) (by decide) (by decide) ?_
        have hk419 : (1 : Int32) = (1 : Int32) := rfl
        refine s_icmpNo (pc' := 164) X417.here hx (hb hby at_161) (teq hk419).2 rfl ?_
        refine s_iload (pc' := 166) X417.here hx (hb hby at_164) rfl rfl ?_
        refine s_iload (pc' := 168) X417.here hx (hb hby at_166) rfl rfl ?_
        have hk420 : (1 : Int32) = (1 : Int32) := rfl
        refine s_icmpNo (pc' := 171) X417.here hx (hb hby at_168) (teq hk420).2 rfl ?_
        refine s_iconst (pc' := 172) X417.here hx (v := (1 : Int32)) (hb hby at_171) rfl rfl ?_
        refine s_goto (pc' := 176) X417.here hx (hb hby at_172) (by decide) (by decide) ?_
        obtain ⟨fs, hr, hrun, hended, hW, hsame⟩ := X417.leave (v := some (.int (1 : Int32))) (fun h => by rw [Bd.returns] at h; cases h)
        refine ⟨_, _, retN X417 hx (t := .boolean) Bd.returns (by simp) (hb hby at_176) hr, hrun, hended, _, _, rfl, ?_, ⟨_, rfl⟩, hW, hsame.mono (by decide) (by decide)⟩
        show own_rm0_Q Z p1 p2 p3 h0 n0 _ T417.heap _
        rw [eh417]
        exact ⟨rfl, N417⟩
      · refine s_callV (pc' := 139) (W := 0) X409 hx hZ  hown (hw _ (List.mem_of_getElem? (i := 13) rfl)) (hw _ (List.mem_of_getElem? (i := 14) rfl)) (hw _ (List.mem_of_getElem? (i := 4) rfl)) (hw _ (List.mem_of_getElem? (i := 17) rfl)) (hw _ (List.mem_of_getElem? (i := 16) rfl)) (hw _ (List.mem_of_getElem? (i := 15) rfl)) (by decide) rfl f411 (own_rm3 l Z a0 hw [] ob ba ka1 n vl (((0 : Int32) + (8 : Int32)) + (4 : Int32)) T409.heap n0 Z412 Fb406 Fp407 f411 f410) (by rw [hml]; rfl) [] [] rfl (lenOf own_pd3 rfl) rfl (Nat.le_of_eq rfl) (by decide) (by decide) (by decide) (by decide) rfl (hb hby at_136) fun T421 v421 Lc421 X421 hQ421 => ?_
        obtain ⟨rfl, Nq421, eh421⟩ := hQ421
        have N421 := Fr.app N409 Nq421
        show Ends p.tables e below (T421.setTop (mkF m 139 #[.val (.int p1), .val (.int p2), .val (.int p3), .val (.int n), .val (.int (12 : Int32)), .val (.ref ba), .val (.ref ob), .val (.int (1 : Int32)), .unset, .unset] [(.int (if (((0 : Int32) + (8 : Int32)) + (4 : Int32)) < n then 1 else 0))])) _
        have hr422 : (if (((0 : Int32) + (8 : Int32)) + (4 : Int32)) < n then (1 : Int32) else 0) = 0 := by rw [pk]; simp only [hkn, if_true, if_false]
        rw [hr422]
        refine s_istore (pc' := 141) X421.here hx (l' := #[.val (.int p1), .val (.int p2), .val (.int p3), .val (.int n), .val (.int (12 : Int32)), .val (.ref ba), .val (.ref ob), .val (.int (1 : Int32)), .val (.int (0 : Int32)), .unset]) (hb hby at_139) rfl rfl ?_
        refine s_aload (pc' := 143) X421.here hx (hb hby at_141) rfl rfl rfl ?_
        refine s_callV (pc' := 146) (W := 0) X421 hx hZ  hown (hw _ (List.mem_of_getElem? (i := 13) rfl)) (hw _ (List.mem_of_getElem? (i := 14) rfl)) (hw _ (List.mem_of_getElem? (i := 4) rfl)) (hw _ (List.mem_of_getElem? (i := 17) rfl)) (hw _ (List.mem_of_getElem? (i := 16) rfl)) (hw _ (List.mem_of_getElem? (i := 15) rfl)) (by decide) eh421 f411 (own_rm3 l Z a0 hw [] ob ba ka1 n vl (((0 : Int32) + (8 : Int32)) + (4 : Int32)) T409.heap n0 Z412 Fb406 Fp407 f411 f410) (by rw [hml]; rfl) [] [] rfl (lenOf own_pd3 rfl) rfl (Nat.le_of_eq rfl) (by decide) (by decide) (by decide) (by decide) rfl (hb hby at_143) fun T423 v423 Lc423 X423 hQ423 => ?_
        obtain ⟨rfl, Nq423, eh423⟩ := hQ423
        have N423 := Fr.app N421 Nq423
        show Ends p.tables e below (T423.setTop (mkF m 146 #[.val (.int p1), .val (.int p2), .val (.int p3), .val (.int n), .val (.int (12 : Int32)), .val (.ref ba), .val (.ref ob), .val (.int (1 : Int32)), .val (.int (0 : Int32)), .unset] [(.int (if (((0 : Int32) + (8 : Int32)) + (4 : Int32)) < n then 1 else 0))])) _
        have hr424 : (if (((0 : Int32) + (8 : Int32)) + (4 : Int32)) < n then (1 : Int32) else 0) = 0 := by rw [pk]; simp only [hkn, if_true, if_false]
        rw [hr424]
        refine s_istore (pc' := 148) X423.here hx (l' := #[.val (.int p1), .val (.int p2), .val (.int p3), .val (.int n), .val (.int (12 : Int32)), .val (.ref ba), .val (.ref ob), .val (.int (1 : Int32)), .val (.int (0 : Int32)), .val (.int (0 : Int32))]) (hb hby at_146) rfl rfl ?_
        refine s_iload (pc' := 150) X423.here hx (hb hby at_148) rfl rfl ?_
        refine s_iload (pc' := 152) X423.here hx (hb hby at_150) rfl rfl ?_
        refine s_iloadN (pc' := 153) X423.here hx (hb hby at_152) rfl rfl ?_
        refine s_icmpYes (pc' := 160) X423.here hx (hb hby at_153) (flt hkn).2.1 (by decide) (by decide) ?_
        refine s_iconst (pc' := 161) X423.here hx (v := (0 : Int32)) (hb hby at_160) rfl rfl ?_
        have hk425 : (0 : Int32) = (0 : Int32) := rfl
        refine s_icmpNo (pc' := 164) X423.here hx (hb hby at_161) (teq hk425).2 rfl ?_
        refine s_iload (pc' := 166) X423.here hx (hb hby at_164) rfl rfl ?_
        refine s_iload (pc' := 168) X423.here hx (hb hby at_166) rfl rfl ?_
        have hk426 : (0 : Int32) = (0 : Int32) := rfl
        refine s_icmpNo (pc' := 171) X423.here hx (hb hby at_168) (teq hk426).2 rfl ?_
        refine s_iconst (pc' := 172) X423.here hx (v := (1 : Int32)) (hb hby at_171) rfl rfl ?_
        refine s_goto (pc' := 176) X423.here hx (hb hby at_172) (by decide) (by decide) ?_
        obtain ⟨fs, hr, hrun, hended, hW, hsame⟩ := X423.leave (v := some (.int (1 : Int32))) (fun h => by rw [Bd.returns] at h; cases h)
        refine ⟨_, _, retN X423 hx (t := .boolean) Bd.returns (by simp) (hb hby at_176) hr, hrun, hended, _, _, rfl, ?_, ⟨_, rfl⟩, hW, hsame.mono (by decide) (by decide)⟩
        show own_rm0_Q Z p1 p2 p3 h0 n0 _ T423.heap _
        rw [eh423]
        exact ⟨rfl, N423⟩
    · subst hq_
      refine s_iload (pc' := 77) X20.here hx (hb hby at_75) rfl rfl ?_
      refine s_bipush (pc' := 79) X20.here hx (v := (8 : Int32)) (hb hby at_77) rfl rfl ?_
      refine s_iand (pc' := 80) X20.here hx (hb hby at_79) rfl ?_
      have hk427 : ¬ (((13 : Int32) &&& (8 : Int32)) = (0 : Int32)) := by decide
      refine s_ifNo (pc' := 83) X20.here hx (hb hby at_80) ((if0 _ _).trans (feq hk427).1) rfl ?_
      refine s_aload (pc' := 85) X20.here hx (hb hby at_83) rfl rfl rfl ?_
      refine s_callV (pc' := 88) (W := 0) X20 hx hZ  hown (hw _ (List.mem_of_getElem? (i := 38) rfl)) (hw _ (List.mem_of_getElem? (i := 39) rfl)) (hw _ (List.mem_of_getElem? (i := 4) rfl)) (hw _ (List.mem_of_getElem? (i := 42) rfl)) (hw _ (List.mem_of_getElem? (i := 41) rfl)) (hw _ (List.mem_of_getElem? (i := 40) rfl)) (by decide) eh20 f18 (own_rm8 l Z a0 hw [] ob ba ka1 n vl (0 : Int32) T16.heap n0 Z19 Fb Fp f18 f17 (by decide) n15 (by have q_ : ((0 : Int32)).toInt + 8 ≤ (13 : Int32).toInt := (by decide); omega) g_ob ne11) (by rw [hml]; rfl) [] [] rfl (lenOf own_pd6 rfl) rfl (Nat.le_of_eq rfl) (by decide) (by decide) (by decide) (by decide) rfl (hb hby at_85) fun T431 v431 Lc431 X431 hQ431 => ?_
      obtain ⟨r430, rfl, Nq431, Kq431, Fb428, Fp429⟩ := hQ431
      have N431 := Fr.app N20 Nq431
      have f432 := f17.keep Kq431 (ninS ne11 nin0)
      have f433 := f18.keep Kq431
      have Z434 : n0 ≤ T431.heap.size := Nat.le_trans Z19 Kq431.1
      show Ends p.tables e below (T431.setTop (mkF m 88 #[.val (.int p1), .val (.int p2), .val (.int p3), .val (.int n), .val (.int (13 : Int32)), .val (.ref ba), .val (.ref ob), .val (.int (1 : Int32)), .unset, .unset] [(.long r430)])) _
      refine s_pop2L (pc' := 89) X431.here hx (hb hby at_88) rfl ?_
      refine s_iload (pc' := 91) X431.here hx (hb hby at_89) rfl rfl ?_
      refine s_iconst (pc' := 92) X431.here hx (v := (4 : Int32)) (hb hby at_91) rfl rfl ?_
      refine s_iand (pc' := 93) X431.here hx (hb hby at_92) rfl ?_
      have hk435 : ¬ (((13 : Int32) &&& (4 : Int32)) = (0 : Int32)) := by decide
      refine s_ifNo (pc' := 96) X431.here hx (hb hby at_93) ((if0 _ _).trans (feq hk435).1) rfl ?_
      refine s_aload (pc' := 98) X431.here hx (hb hby at_96) rfl rfl rfl ?_
      refine s_callV (pc' := 101) (W := 0) X431 hx hZ  hown (hw _ (List.mem_of_getElem? (i := 20) rfl)) (hw _ (List.mem_of_getElem? (i := 21) rfl)) (hw _ (List.mem_of_getElem? (i := 4) rfl)) (hw _ (List.mem_of_getElem? (i := 24) rfl)) (hw _ (List.mem_of_getElem? (i := 23) rfl)) (hw _ (List.mem_of_getElem? (i := 22) rfl)) (by decide) rfl f433 (own_rm4 l Z a0 hw [] ob ba ka1 n vl ((0 : Int32) + (8 : Int32)) T431.heap n0 Z434 Fb428 Fp429 f433 f432 (by decide) n15 (by have q_ : (((0 : Int32) + (8 : Int32))).toInt + 4 ≤ (13 : Int32).toInt := (by decide); omega) g_ob ne11) (by rw [hml]; rfl) [] [] rfl (lenOf own_pd5 rfl) rfl (Nat.le_of_eq rfl) (by decide) (by decide) (by decide) (by decide) rfl (hb hby at_98) fun T439 v439 Lc439 X439 hQ439 => ?_
      obtain ⟨r438, rfl, Nq439, Kq439, Fb436, Fp437⟩ := hQ439
      have N439 := Fr.app N431 Nq439
      have f440 := f432.keep Kq439 (ninS ne11 nin0)
      have f441 := f433.keep Kq439
      have Z442 : n0 ≤ T439.heap.size := Nat.le_trans Z434 Kq439.1
      show Ends p.tables e below (T439.setTop (mkF m 101 #[.val (.int p1), .val (.int p2), .val (.int p3), .val (.int n), .val (.int (13 : Int32)), .val (.ref ba), .val (.ref ob), .val (.int (1 : Int32)), .unset, .unset] [(.int r438)])) _
      refine s_pop (pc' := 102) X439.here hx (hb hby at_101) rfl rfl ?_
      refine s_iload (pc' := 104) X439.here hx (hb hby at_102) rfl rfl ?_
      refine s_iconst (pc' := 105) X439.here hx (v := (2 : Int32)) (hb hby at_104) rfl rfl ?_
      refine s_iand (pc' := 106) X439.here hx (hb hby at_105) rfl ?_
      have hk443 : ((13 : Int32) &&& (2 : Int32)) = (0 : Int32) := by decide
      refine s_ifYes (pc' := 121) X439.here hx (hb hby at_106) ((if0 _ _).trans (teq hk443).1) (by decide) (by decide) ?_
      refine s_iload (pc' := 123) X439.here hx (hb hby at_121) rfl rfl ?_
      refine s_iconst (pc' := 124) X439.here hx (v := (1 : Int32)) (hb hby at_123) rfl rfl ?_
      refine s_iand (pc' := 125) X439.here hx (hb hby at_124) rfl ?_
      have hk444 : ¬ (((13 : Int32) &&& (1 : Int32)) = (0 : Int32)) := by decide
      refine s_ifNo (pc' := 128) X439.here hx (hb hby at_125) ((if0 _ _).trans (feq hk444).1) rfl ?_
      refine s_aload (pc' := 130) X439.here hx (hb hby at_128) rfl rfl rfl ?_
      refine s_callV (pc' := 133) (W := 0) X439 hx hZ  hown (hw _ (List.mem_of_getElem? (i := 33) rfl)) (hw _ (List.mem_of_getElem? (i := 34) rfl)) (hw _ (List.mem_of_getElem? (i := 4) rfl)) (hw _ (List.mem_of_getElem? (i := 37) rfl)) (hw _ (List.mem_of_getElem? (i := 36) rfl)) (hw _ (List.mem_of_getElem? (i := 35) rfl)) (by decide) rfl f441 (own_rm7 l Z a0 hw [] ob ba ka1 n vl (((0 : Int32) + (8 : Int32)) + (4 : Int32)) T439.heap n0 Z442 Fb436 Fp437 f441 f440 (by decide) n15 (by have q_ : ((((0 : Int32) + (8 : Int32)) + (4 : Int32))).toInt + 1 ≤ (13 : Int32).toInt := (by decide); omega) g_ob ne11) (by rw [hml]; rfl) [] [] rfl (lenOf own_pd4 rfl) rfl (Nat.le_of_eq rfl) (by decide) (by decide) (by decide) (by decide) rfl (hb hby at_130) fun T448 v448 Lc448 X448 hQ448 => ?_
      obtain ⟨r447, rfl, Nq448, Kq448, Fb445, Fp446⟩ := hQ448
      have N448 := Fr.app N439 Nq448
      have f449 := f440.keep Kq448 (ninS ne11 nin0)
      have f450 := f441.keep Kq448
      have Z451 : n0 ≤ T448.heap.size := Nat.le_trans Z442 Kq448.1
      show Ends p.tables e below (T448.setTop (mkF m 133 #[.val (.int p1), .val (.int p2), .val (.int p3), .val (.int n), .val (.int (13 : Int32)), .val (.ref ba), .val (.ref ob), .val (.int (1 : Int32)), .unset, .unset] [(.int r447)])) _
      refine s_pop (pc' := 134) X448.here hx (hb hby at_133) rfl rfl ?_
      refine s_aload (pc' := 136) X448.here hx (hb hby at_134) rfl rfl rfl ?_
      have pk : ((((0 : Int32) + (8 : Int32)) + (4 : Int32)) + (1 : Int32)) = (13 : Int32) := by decide
      by_cases hkn : (13 : Int32) < n
      · refine s_callV (pc' := 139) (W := 0) X448 hx hZ  hown (hw _ (List.mem_of_getElem? (i := 13) rfl)) (hw _ (List.mem_of_getElem? (i := 14) rfl)) (hw _ (List.mem_of_getElem? (i := 4) rfl)) (hw _ (List.mem_of_getElem? (i := 17) rfl)) (hw _ (List.mem_of_getElem? (i := 16) rfl)) (hw _ (List.mem_of_getElem? (i := 15) rfl)) (by decide) rfl f450 (own_rm3 l Z a0 hw [] ob ba ka1 n vl ((((0 : Int32) + (8 : Int32)) + (4 : Int32)) + (1 : Int32)) T448.heap n0 Z451 Fb445 Fp446 f450 f449) (by rw [hml]; rfl) [] [] rfl (lenOf own_pd3 rfl) rfl (Nat.le_of_eq rfl) (by decide) (by decide) (by decide) (by decide) rfl (hb hby at_136) fun T452 v452 Lc452 X452 hQ452 => ?_
        obtain ⟨rfl, Nq452, eh452⟩ := hQ452
        have N452 := Fr.app N448 Nq452
        show Ends p.tables e below (T452.setTop (mkF m 139 #[.val (.int p1), .val (.int p2), .val (.int p3), .val (.int n), .val (.int (13 : Int32)), .val (.ref ba), .val (.ref ob), .val (.int (1 : Int32)), .unset, .unset] [(.int (if ((((0 : Int32) + (8 : Int32)) + (4 : Int32)) + (1 : Int32)) < n then 1 else 0))])) _
        have hr453 : (if ((((0 : Int32) + (8 : Int32)) + (4 : Int32)) + (1 : Int32)) < n then (1 : Int32) else 0) = 1 := by rw [pk]; simp only [hkn, if_true, if_false]
        rw [hr453]
        refine s_istore (pc' := 141) X452.here hx (l' := #[.val (.int p1), .val (.int p2), .val (.int p3), .val (.int n), .val (.int (13 : Int32)), .val (.ref ba), .val (.ref ob), .val (.int (1 : Int32)), .val (.int (1 : Int32)), .unset]) (hb hby at_139) rfl rfl ?_
        refine s_aload (pc' := 143) X452.here hx (hb hby at_141) rfl rfl rfl ?_
        refine s_callV (pc' := 146) (W := 0) X452 hx hZ  hown (hw _ (List.mem_of_getElem? (i := 13) rfl)) (hw _ (List.mem_of_getElem? (i := 14) rfl)) (hw _ (List.mem_of_getElem? (i := 4) rfl)) (hw _ (List.mem_of_getElem? (i := 17) rfl)) (hw _ (List.mem_of_getElem? (i := 16) rfl)) (hw _ (List.mem_of_getElem? (i := 15) rfl)) (by decide) eh452 f450 (own_rm3 l Z a0 hw [] ob ba ka1 n vl ((((0 : Int32) + (8 : Int32)) + (4 : Int32)) + (1 : Int32)) T448.heap n0 Z451 Fb445 Fp446 f450 f449) (by rw [hml]; rfl) [] [] rfl (lenOf own_pd3 rfl) rfl (Nat.le_of_eq rfl) (by decide) (by decide) (by decide) (by decide) rfl (hb hby at_143) fun T454 v454 Lc454 X454 hQ454 => ?_
        obtain ⟨rfl, Nq454, eh454⟩ := hQ454
        have N454 := Fr.app N452 Nq454
        show Ends p.tables e below (T454.setTop (mkF m 146 #[.val (.int p1), .val (.int p2), .val (.int p3), .val (.int n), .val (.int (13 : Int32)), .val (.ref ba), .val (.ref ob), .val (.int (1 : Int32)), .val (.int (1 : Int32)), .unset] [(.int (if ((((0 : Int32) + (8 : Int32)) + (4 : Int32)) + (1 : Int32)) < n then 1 else 0))])) _
        have hr455 : (if ((((0 : Int32) + (8 : Int32)) + (4 : Int32)) + (1 : Int32)) < n then (1 : Int32) else 0) = 1 := by rw [pk]; simp only [hkn, if_true, if_false]
        rw [hr455]
        refine s_istore (pc' := 148) X454.here hx (l' := #[.val (.int p1), .val (.int p2), .val (.int p3), .val (.int n), .val (.int (13 : Int32)), .val (.ref ba), .val (.ref ob), .val (.int (1 : Int32)), .val (.int (1 : Int32)), .val (.int (1 : Int32))]) (hb hby at_146) rfl rfl ?_
        refine s_iload (pc' := 150) X454.here hx (hb hby at_148) rfl rfl ?_
        refine s_iload (pc' := 152) X454.here hx (hb hby at_150) rfl rfl ?_
        refine s_iloadN (pc' := 153) X454.here hx (hb hby at_152) rfl rfl ?_
        refine s_icmpNo (pc' := 156) X454.here hx (hb hby at_153) (tlt hkn).2.1 rfl ?_
        refine s_iconst (pc' := 157) X454.here hx (v := (1 : Int32)) (hb hby at_156) rfl rfl ?_
        refine s_goto (pc' := 161) X454.here hx (hb hby at_157) (by decide) (by decide) ?_
        have hk456 : (1 : Int32) = (1 : Int32) := rfl
        refine s_icmpNo (pc' := 164) X454.here hx (hb hby at_161) (teq hk456).2 rfl ?_
        refine s_iload (pc' := 166) X454.here hx (hb hby at_164) rfl rfl ?_
        refine s_iload (pc' := 168) X454.here hx (hb hby at_166) rfl rfl ?_
        have hk457 : (1 : Int32) = (1 : Int32) := rfl
        refine s_icmpNo (pc' := 171) X454.here hx (hb hby at_168) (teq hk457).2 rfl ?_
        refine s_iconst (pc' := 172) X454.here hx (v := (1 : Int32)) (hb hby at_171) rfl rfl ?_
        refine s_goto (pc' := 176) X454.here hx (hb hby at_172) (by decide) (by decide) ?_
        obtain ⟨fs, hr, hrun, hended, hW, hsame⟩ := X454.leave (v := some (.int (1 : Int32))) (fun h => by rw [Bd.returns] at h; cases h)
        refine ⟨_, _, retN X454 hx (t := .boolean) Bd.returns (by simp) (hb hby at_176) hr, hrun, hended, _, _, rfl, ?_, ⟨_, rfl⟩, hW, hsame.mono (by decide) (by decide)⟩
        show own_rm0_Q Z p1 p2 p3 h0 n0 _ T454.heap _
        rw [eh454]
        exact ⟨rfl, N454⟩
      · refine s_callV (pc' := 139) (W := 0) X448 hx hZ  hown (hw _ (List.mem_of_getElem? (i := 13) rfl)) (hw _ (List.mem_of_getElem? (i := 14) rfl)) (hw _ (List.mem_of_getElem? (i := 4) rfl)) (hw _ (List.mem_of_getElem? (i := 17) rfl)) (hw _ (List.mem_of_getElem? (i := 16) rfl)) (hw _ (List.mem_of_getElem? (i := 15) rfl)) (by decide) rfl f450 (own_rm3 l Z a0 hw [] ob ba ka1 n vl ((((0 : Int32) + (8 : Int32)) + (4 : Int32)) + (1 : Int32)) T448.heap n0 Z451 Fb445 Fp446 f450 f449) (by rw [hml]; rfl) [] [] rfl (lenOf own_pd3 rfl) rfl (Nat.le_of_eq rfl) (by decide) (by decide) (by decide) (by decide) rfl (hb hby at_136) fun T458 v458 Lc458 X458 hQ458 => ?_
        obtain ⟨rfl, Nq458, eh458⟩ := hQ458
        have N458 := Fr.app N448 Nq458
        show Ends p.tables e below (T458.setTop (mkF m 139 #[.val (.int p1), .val (.int p2), .val (.int p3), .val (.int n), .val (.int (13 : Int32)), .val (.ref ba), .val (.ref ob), .val (.int (1 : Int32)), .unset, .unset] [(.int (if ((((0 : Int32) + (8 : Int32)) + (4 : Int32)) + (1 : Int32)) < n then 1 else 0))])) _
        have hr459 : (if ((((0 : Int32) + (8 : Int32)) + (4 : Int32)) + (1 : Int32)) < n then (1 : Int32) else 0) = 0 := by rw [pk]; simp only [hkn, if_true, if_false]
        rw [hr459]
        refine s_istore (pc' := 141) X458.here hx (l' := #[.val (.int p1), .val (.int p2), .val (.int p3), .val (.int n), .val (.int (13 : Int32)), .val (.ref ba), .val (.ref ob), .val (.int (1 : Int32)), .val (.int (0 : Int32)), .unset]) (hb hby at_139) rfl rfl ?_
        refine s_aload (pc' := 143) X458.here hx (hb hby at_141) rfl rfl rfl ?_
        refine s_callV (pc' := 146) (W := 0) X458 hx hZ  hown (hw _ (List.mem_of_getElem? (i := 13) rfl)) (hw _ (List.mem_of_getElem? (i := 14) rfl)) (hw _ (List.mem_of_getElem? (i := 4) rfl)) (hw _ (List.mem_of_getElem? (i := 17) rfl)) (hw _ (List.mem_of_getElem? (i := 16) rfl)) (hw _ (List.mem_of_getElem? (i := 15) rfl)) (by decide) eh458 f450 (own_rm3 l Z a0 hw [] ob ba ka1 n vl ((((0 : Int32) + (8 : Int32)) + (4 : Int32)) + (1 : Int32)) T448.heap n0 Z451 Fb445 Fp446 f450 f449) (by rw [hml]; rfl) [] [] rfl (lenOf own_pd3 rfl) rfl (Nat.le_of_eq rfl) (by decide) (by decide) (by decide) (by decide) rfl (hb hby at_143) fun T460 v460 Lc460 X460 hQ460 => ?_
        obtain ⟨rfl, Nq460, eh460⟩ := hQ460
        have N460 := Fr.app N458 Nq460
        show Ends p.tables e below (T460.setTop (mkF m 146 #[.val (.int p1), .val (.int p2), .val (.int p3), .val (.int n), .val (.int (13 : Int32)), .val (.ref ba), .val (.ref ob), .val (.int (1 : Int32)), .val (.int (0 : Int32)), .unset] [(.int (if ((((0 : Int32) + (8 : Int32)) + (4 : Int32)) + (1 : Int32)) < n then 1 else 0))])) _
        have hr461 : (if ((((0 : Int32) + (8 : Int32)) + (4 : Int32)) + (1 : Int32)) < n then (1 : Int32) else 0) = 0 := by rw [pk]; simp only [hkn, if_true, if_false]
        rw [hr461]
        refine s_istore (pc' := 148) X460.here hx (l' := #[.val (.int p1), .val (.int p2), .val (.int p3), .val (.int n), .val (.int (13 : Int32)), .val (.ref ba), .val (.ref ob), .val (.int (1 : Int32)), .val (.int (0 : Int32)), .val (.int (0 : Int32))]) (hb hby at_146) rfl rfl ?_
        refine s_iload (pc' := 150) X460.here hx (hb hby at_148) rfl rfl ?_
        refine s_iload (pc' := 152) X460.here hx (hb hby at_150) rfl rfl ?_
        refine s_iloadN (pc' := 153) X460.here hx (hb hby at_152) rfl rfl ?_
        refine s_icmpYes (pc' := 160) X460.here hx (hb hby at_153) (flt hkn).2.1 (by decide) (by decide) ?_
        refine s_iconst (pc' := 161) X460.here hx (v := (0 : Int32)) (hb hby at_160) rfl rfl ?_
        have hk462 : (0 : Int32) = (0 : Int32) := rfl
        refine s_icmpNo (pc' := 164) X460.here hx (hb hby at_161) (teq hk462).2 rfl ?_
        refine s_iload (pc' := 166) X460.here hx (hb hby at_164) rfl rfl ?_
        refine s_iload (pc' := 168) X460.here hx (hb hby at_166) rfl rfl ?_
        have hk463 : (0 : Int32) = (0 : Int32) := rfl
        refine s_icmpNo (pc' := 171) X460.here hx (hb hby at_168) (teq hk463).2 rfl ?_
        refine s_iconst (pc' := 172) X460.here hx (v := (1 : Int32)) (hb hby at_171) rfl rfl ?_
        refine s_goto (pc' := 176) X460.here hx (hb hby at_172) (by decide) (by decide) ?_
        obtain ⟨fs, hr, hrun, hended, hW, hsame⟩ := X460.leave (v := some (.int (1 : Int32))) (fun h => by rw [Bd.returns] at h; cases h)
        refine ⟨_, _, retN X460 hx (t := .boolean) Bd.returns (by simp) (hb hby at_176) hr, hrun, hended, _, _, rfl, ?_, ⟨_, rfl⟩, hW, hsame.mono (by decide) (by decide)⟩
        show own_rm0_Q Z p1 p2 p3 h0 n0 _ T460.heap _
        rw [eh460]
        exact ⟨rfl, N460⟩
    · subst hq_
      refine s_iload (pc' := 77) X20.here hx (hb hby at_75) rfl rfl ?_
      refine s_bipush (pc' := 79) X20.here hx (v := (8 : Int32)) (hb hby at_77) rfl rfl ?_
      refine s_iand (pc' := 80) X20.here hx (hb hby at_79) rfl ?_
      have hk464 : ¬ (((14 : Int32) &&& (8 : Int32)) = (0 : Int32)) := by decide
      refine s_ifNo (pc' := 83) X20.here hx (hb hby at_80) ((if0 _ _).trans (feq hk464).1) rfl ?_
      refine s_aload (pc' := 85) X20.here hx (hb hby at_83) rfl rfl rfl ?_
      refine s_callV (pc' := 88) (W := 0) X20 hx hZ  hown (hw _ (List.mem_of_getElem? (i := 38) rfl)) (hw _ (List.mem_of_getElem? (i := 39) rfl)) (hw _ (List.mem_of_getElem? (i := 4) rfl)) (hw _ (List.mem_of_getElem? (i := 42) rfl)) (hw _ (List.mem_of_getElem? (i := 41) rfl)) (hw _ (List.mem_of_getElem? (i := 40) rfl)) (by decide) eh20 f18 (own_rm8 l Z a0 hw [] ob ba ka1 n vl (0 : Int32) T16.heap n0 Z19 Fb Fp f18 f17 (by decide) n15 (by have q_ : ((0 : Int32)).toInt + 8 ≤ (14 : Int32).toInt := (by decide); omega) g_ob ne11) (by rw [hml]; rfl) [] [] rfl (lenOf own_pd6 rfl) rfl (Nat.le_of_eq rfl) (by decide) (by decide) (by decide) (by decide) rfl (hb hby at_85) fun T468 v468 Lc468 X468 hQ468 => ?_
      obtain ⟨r467, rfl, Nq468, Kq468, Fb465, Fp466⟩ := hQ468
      have N468 := Fr.app N20 Nq468
      have f469 := f17.keep Kq468 (ninS ne11 nin0)
      have f470 := f18.keep Kq468
      have Z471 : n0 ≤ T468.heap.size := Nat.le_trans Z19 Kq468.1
      show Ends p.tables e below (T468.setTop (mkF m 88 #[.val (.int p1), .val (.int p2), .val (.int p3), .val (.int n), .val (.int (14 : Int32)), .val (.ref ba), .val (.ref ob), .val (.int (1 : Int32)), .unset, .unset] [(.long r467)])) _
      refine s_pop2L (pc' := 89) X468.here hx (hb hby at_88) rfl ?_
      refine s_iload (pc' := 91) X468.here hx (hb hby at_89) rfl rfl ?_
      refine s_iconst (pc' := 92) X468.here hx (v := (4 : Int32)) (hb hby at_91) rfl rfl ?_
      refine s_iand (pc' := 93) X468.here hx (hb hby at_92) rfl ?_
      have hk472 : ¬ (((14 : Int32) &&& (4 : Int32)) = (0 : Int32)) := by decide
      refine s_ifNo (pc' := 96) X468.here hx (hb hby at_93) ((if0 _ _).trans (feq hk472).1) rfl ?_
      refine s_aload (pc' := 98) X468.here hx (hb hby at_96) rfl rfl rfl ?_
      refine s_callV (pc' := 101) (W := 0) X468 hx hZ  hown (hw _ (List.mem_of_getElem? (i := 20) rfl)) (hw _ (List.mem_of_getElem? (i := 21) rfl)) (hw _ (List.mem_of_getElem? (i := 4) rfl)) (hw _ (List.mem_of_getElem? (i := 24) rfl)) (hw _ (List.mem_of_getElem? (i := 23) rfl)) (hw _ (List.mem_of_getElem? (i := 22) rfl)) (by decide) rfl f470 (own_rm4 l Z a0 hw [] ob ba ka1 n vl ((0 : Int32) + (8 : Int32)) T468.heap n0 Z471 Fb465 Fp466 f470 f469 (by decide) n15 (by have q_ : (((0 : Int32) + (8 : Int32))).toInt + 4 ≤ (14 : Int32).toInt := (by decide); omega) g_ob ne11) (by rw [hml]; rfl) [] [] rfl (lenOf own_pd5 rfl) rfl (Nat.le_of_eq rfl) (by decide) (by decide) (by decide) (by decide) rfl (hb hby at_98) fun T476 v476 Lc476 X476 hQ476 => ?_
      obtain ⟨r475, rfl, Nq476, Kq476, Fb473, Fp474⟩ := hQ476
      have N476 := Fr.app N468 Nq476
      have f477 := f469.keep Kq476 (ninS ne11 nin0)
      have f478 := f470.keep Kq476
      have Z479 : n0 ≤ T476.heap.size := Nat.le_trans Z471 Kq476.1
      show Ends p.tables e below (T476.setTop (mkF m 101 #[.val (.int p1), .val (.int p2), .val (.int p3), .val (.int n), .val (.int (14 : Int32)), .val (.ref ba), .val (.ref ob), .val (.int (1 : Int32)), .unset, .unset] [(.int r475)])) _
      refine s_pop (pc' := 102) X476.here hx (hb hby at_101) rfl rfl ?_
      refine s_iload (pc' := 104) X476.here hx (hb hby at_102) rfl rfl ?_
      refine s_iconst (pc' := 105) X476.here hx (v := (2 : Int32)) (hb hby at_104) rfl rfl ?_
      refine s_iand (pc' := 106) X476.here hx (hb hby at_105) rfl ?_
      have hk480 : ¬ (((14 : Int32) &&& (2 : Int32)) = (0 : Int32)) := by decide
      refine s_ifNo (pc' := 109) X476.here hx (hb hby at_106) ((if0 _ _).trans (feq hk480).1) rfl ?_
      refine s_aload (pc' := 111) X476.here hx (hb hby at_109) rfl rfl rfl ?_
      refine s_callV (pc' := 114) (W := 0) X476 hx hZ  hown (hw _ (List.mem_of_getElem? (i := 33) rfl)) (hw _ (List.mem_of_getElem? (i := 34) rfl)) (hw _ (List.mem_of_getElem? (i := 4) rfl)) (hw _ (List.mem_of_getElem? (i := 37) rfl)) (hw _ (List.mem_of_getElem? (i := 36) rfl)) (hw _ (List.mem_of_getElem? (i := 35) rfl)) (by decide) rfl f478 (own_rm7 l Z a0 hw [] ob ba ka1 n vl (((0 : Int32) + (8 : Int32)) + (4 : Int32)) T476.heap n0 Z479 Fb473 Fp474 f478 f477 (by decide) n15 (by have q_ : ((((0 : Int32) + (8 : Int32)) + (4 : Int32))).toInt + 1 ≤ (14 : Int32).toInt := (by decide); omega) g_ob ne11) (by rw [hml]; rfl) [] [] rfl (lenOf own_pd4 rfl) rfl (Nat.le_of_eq rfl) (by decide) (by decide) (by decide) (by decide) rfl (hb hby at_111) fun T484 v484 Lc484 X484 hQ484 => ?_
      obtain ⟨r483, rfl, Nq484, Kq484, Fb481, Fp482⟩ := hQ484
      have N484 := Fr.app N476 Nq484
      have f485 := f477.keep Kq484 (ninS ne11 nin0)
      have f486 := f478.keep Kq484
      have Z487 : n0 ≤ T484.heap.size := Nat.le_trans Z479 Kq484.1
      show Ends p.tables e below (T484.setTop (mkF m 114 #[.val (.int p1), .val (.int p2), .val (.int p3), .val (.int n), .val (.int (14 : Int32)), .val (.ref ba), .val (.ref ob), .val (.int (1 : Int32)), .unset, .unset] [(.int r483)])) _
      refine s_pop (pc' := 115) X484.here hx (hb hby at_114) rfl rfl ?_
      refine s_aload (pc' := 117) X484.here hx (hb hby at_115) rfl rfl rfl ?_
      refine s_callV (pc' := 120) (W := 0) X484 hx hZ  hown (hw _ (List.mem_of_getElem? (i := 33) rfl)) (hw _ (List.mem_of_getElem? (i := 34) rfl)) (hw _ (List.mem_of_getElem? (i := 4) rfl)) (hw _ (List.mem_of_getElem? (i := 37) rfl)) (hw _ (List.mem_of_getElem? (i := 36) rfl)) (hw _ (List.mem_of_getElem? (i := 35) rfl)) (by decide) rfl f486 (own_rm7 l Z a0 hw [] ob ba ka1 n vl ((((0 : Int32) + (8 : Int32)) + (4 : Int32)) + (1 : Int32)) T484.heap n0 Z487 Fb481 Fp482 f486 f485 (by decide) n15 (by have q_ : (((((0 : Int32) + (8 : Int32)) + (4 : Int32)) + (1 : Int32))).toInt + 1 ≤ (14 : Int32).toInt := (by decide); omega) g_ob ne11) (by rw [hml]; rfl) [] [] rfl (lenOf own_pd4 rfl) rfl (Nat.le_of_eq rfl) (by decide) (by decide) (by decide) (by decide) rfl (hb hby at_117) fun T491 v491 Lc491 X491 hQ491 => ?_
      obtain ⟨r490, rfl, Nq491, Kq491, Fb488, Fp489⟩ := hQ491
      have N491 := Fr.app N484 Nq491
      have f492 := f485.keep Kq491 (ninS ne11 nin0)
      have f493 := f486.keep Kq491
      have Z494 : n0 ≤ T491.heap.size := Nat.le_trans Z487 Kq491.1
      show Ends p.tables e below (T491.setTop (mkF m 120 #[.val (.int p1), .val (.int p2), .val (.int p3), .val (.int n), .val (.int (14 : Int32)), .val (.ref ba), .val (.ref ob), .val (.int (1 : Int32)), .unset, .unset] [(.int r490)])) _
      refine s_pop (pc' := 121) X491.here hx (hb hby at_120) rfl rfl ?_
      refine s_iload (pc' := 123) X491.here hx (hb hby at_121) rfl rfl ?_
      refine s_iconst (pc' := 124) X491.here hx (v := (1 : Int32)) (hb hby at_123) rfl rfl ?_
      refine s_iand (pc' := 125) X491.here hx (hb hby at_124) rfl ?_
      have hk495 : ((14 : Int32) &&& (1 : Int32)) = (0 : Int32) := by decide
      refine s_ifYes (pc' := 134) X491.here hx (hb hby at_125) ((if0 _ _).trans (teq hk495).1) (by decide) (by decide) ?_
      refine s_aload (pc' := 136) X491.here hx (hb hby at_134) rfl rfl rfl ?_
      have pk : (((((0 : Int32) + (8 : Int32)) + (4 : Int32)) + (1 : Int32)) + (1 : Int32)) = (14 : Int32) := by decide
      by_cases hkn : (14 : Int32) < n
      · refine s_callV (pc' := 139) (W := 0) X491 hx hZ  hown (hw _ (List.mem_of_getElem? (i := 13) rfl)) (hw _ (List.mem_of_getElem? (i := 14) rfl)) (hw _ (List.mem_of_getElem? (i := 4) rfl)) (hw _ (List.mem_of_getElem? (i := 17) rfl)) (hw _ (List.mem_of_getElem? (i := 16) rfl)) (hw _ (List.mem_of_getElem? (i := 15) rfl)) (by decide) rfl f493 (own_rm3 l Z a0 hw [] ob ba ka1 n vl (((((0 : Int32) + (8 : Int32)) + (4 : Int32)) + (1 : Int32)) + (1 : Int32)) T491.heap n0 Z494 Fb488 Fp489 f493 f492) (by rw [hml]; rfl) [] [] rfl (lenOf own_pd3 rfl) rfl (Nat.le_of_eq rfl) (by decide) (by decide) (by decide) (by decide) rfl (hb hby at_136) fun T496 v496 Lc496 X496 hQ496 => ?_
        obtain ⟨rfl, Nq496, eh496⟩ := hQ496
        have N496 := Fr.app N491 Nq496
        show Ends p.tables e below (T496.setTop (mkF m 139 #[.val (.int p1), .val (.int p2), .val (.int p3), .val (.int n), .val (.int (14 : Int32)), .val (.ref ba), .val (.ref ob), .val (.int (1 : Int32)), .unset, .unset] [(.int (if (((((0 : Int32) + (8 : Int32)) + (4 : Int32)) + (1 : Int32)) + (1 : Int32)) < n then 1 else 0))])) _
        have hr497 : (if (((((0 : Int32) + (8 : Int32)) + (4 : Int32)) + (1 : Int32)) + (1 : Int32)) < n then (1 : Int32) else 0) = 1 := by rw [pk]; simp only [hkn, if_true, if_false]
        rw [hr497]
        refine s_istore (pc' := 141) X496.here hx (l' := #[.val (.int p1), .val (.int p2), .val (.int p3), .val (.int n), .val (.int (14 : Int32)), .val (.ref ba), .val (.ref ob), .val (.int (1 : Int32)), .val (.int (1 : Int32)), .unset]) (hb hby at_139) rfl rfl ?_
        refine s_aload (pc' := 143) X496.here hx (hb hby at_141) rfl rfl rfl ?_
        refine s_callV (pc' := 146) (W := 0) X496 hx hZ  hown (hw _ (List.mem_of_getElem? (i := 13) rfl)) (hw _ (List.mem_of_getElem? (i := 14) rfl)) (hw _ (List.mem_of_getElem? (i := 4) rfl)) (hw _ (List.mem_of_getElem? (i := 17) rfl)) (hw _ (List.mem_of_getElem? (i := 16) rfl)) (hw _ (List.mem_of_getElem? (i := 15) rfl)) (by decide) eh496 f493 (own_rm3 l Z a0 hw [] ob ba ka1 n vl (((((0 : Int32) + (8 : Int32)) + (4 : Int32)) + (1 : Int32)) + (1 : Int32)) T491.heap n0 Z494 Fb488 Fp489 f493 f492) (by rw [hml]; rfl) [] [] rfl (lenOf own_pd3 rfl) rfl (Nat.le_of_eq rfl) (by decide) (by decide) (by decide) (by decide) rfl (hb hby at_143) fun T498 v498 Lc498 X498 hQ498 => ?_
        obtain ⟨rfl, Nq498, eh498⟩ := hQ498
        have N498 := Fr.app N496 Nq498
        show Ends p.tables e below (T498.setTop (mkF m 146 #[.val (.int p1), .val (.int p2), .val (.int p3), .val (.int n), .val (.int (14 : Int32)), .val (.ref ba), .val (.ref ob), .val (.int (1 : Int32)), .val (.int (1 : Int32)), .unset] [(.int (if (((((0 : Int32) + (8 : Int32)) + (4 : Int32)) + (1 : Int32)) + (1 : Int32)) < n then 1 else 0))])) _
        have hr499 : (if (((((0 : Int32) + (8 : Int32)) + (4 : Int32)) + (1 : Int32)) + (1 : Int32)) < n then (1 : Int32) else 0) = 1 := by rw [pk]; simp only [hkn, if_true, if_false]
        rw [hr499]
        refine s_istore (pc' := 148) X498.here hx (l' := #[.val (.int p1), .val (.int p2), .val (.int p3), .val (.int n), .val (.int (14 : Int32)), .val (.ref ba), .val (.ref ob), .val (.int (1 : Int32)), .val (.int (1 : Int32)), .val (.int (1 : Int32))]) (hb hby at_146) rfl rfl ?_
        refine s_iload (pc' := 150) X498.here hx (hb hby at_148) rfl rfl ?_
        refine s_iload (pc' := 152) X498.here hx (hb hby at_150) rfl rfl ?_
        refine s_iloadN (pc' := 153) X498.here hx (hb hby at_152) rfl rfl ?_
        refine s_icmpNo (pc' := 156) X498.here hx (hb hby at_153) (tlt hkn).2.1 rfl ?_
        refine s_iconst (pc' := 157) X498.here hx (v := (1 : Int32)) (hb hby at_156) rfl rfl ?_
        refine s_goto (pc' := 161) X498.here hx (hb hby at_157) (by decide) (by decide) ?_
        have hk500 : (1 : Int32) = (1 : Int32) := rfl
        refine s_icmpNo (pc' := 164) X498.here hx (hb hby at_161) (teq hk500).2 rfl ?_
        refine s_iload (pc' := 166) X498.here hx (hb hby at_164) rfl rfl ?_
        refine s_iload (pc' := 168) X498.here hx (hb hby at_166) rfl rfl ?_
        have hk501 : (1 : Int32) = (1 : Int32) := rfl
        refine s_icmpNo (pc' := 171) X498.here hx (hb hby at_168) (teq hk501).2 rfl ?_
        refine s_iconst (pc' := 172) X498.here hx (v := (1 : Int32)) (hb hby at_171) rfl rfl ?_
        refine s_goto (pc' := 176) X498.here hx (hb hby at_172) (by decide) (by decide) ?_
        obtain ⟨fs, hr, hrun, hended, hW, hsame⟩ := X498.leave (v := some (.int (1 : Int32))) (fun h => by rw [Bd.returns] at h; cases h)
        refine ⟨_, _, retN X498 hx (t := .boolean) Bd.returns (by simp) (hb hby at_176) hr, hrun, hended, _, _, rfl, ?_, ⟨_, rfl⟩, hW, hsame.mono (by decide) (by decide)⟩
        show own_rm0_Q Z p1 p2 p3 h0 n0 _ T498.heap _
        rw [eh498]
        exact ⟨rfl, N498⟩
      · refine s_callV (pc' := 139) (W := 0) X491 hx hZ  hown (hw _ (List.mem_of_getElem? (i := 13) rfl)) (hw _ (List.mem_of_getElem? (i := 14) rfl)) (hw _ (List.mem_of_getElem? (i := 4) rfl)) (hw _ (List.mem_of_getElem? (i := 17) rfl)) (hw _ (List.mem_of_getElem? (i := 16) rfl)) (hw _ (List.mem_of_getElem? (i := 15) rfl)) (by decide) rfl f493 (own_rm3 l Z a0 hw [] ob ba ka1 n vl (((((0 : Int32) + (8 : Int32)) + (4 : Int32)) + (1 : Int32)) + (1 : Int32)) T491.heap n0 Z494 Fb488 Fp489 f493 f492) (by rw [hml]; rfl) [] [] rfl (lenOf own_pd3 rfl) rfl (Nat.le_of_eq rfl) (by decide) (by decide) (by decide) (by decide) rfl (hb hby at_136) fun T502 v502 Lc502 X502 hQ502 => ?_
        obtain ⟨rfl, Nq502, eh502⟩ := hQ502
        have N502 := Fr.app N491 Nq502
        show Ends p.tables e below (T502.setTop (mkF m 139 #[.val (.int p1), .val (.int p2), .val (.int p3), .val (.int n), .val (.int (14 : Int32)), .val (.ref ba), .val (.ref ob), .val (.int (1 : Int32)), .unset, .unset] [(.int (if (((((0 : Int32) + (8 : Int32)) + (4 : Int32)) + (1 : Int32)) + (1 : Int32)) < n then 1 else 0))])) _
        have hr503 : (if (((((0 : Int32) + (8 : Int32)) + (4 : Int32)) + (1 : Int32)) + (1 : Int32)) < n then (1 : Int32) else 0) = 0 := by rw [pk]; simp only [hkn, if_true, if_false]
        rw [hr503]
        refine s_istore (pc' := 141) X502.here hx (l' := #[.val (.int p1), .val (.int p2), .val (.int p3), .val (.int n), .val (.int (14 : Int32)), .val (.ref ba), .val (.ref ob), .val (.int (1 : Int32)), .val (.int (0 : Int32)), .unset]) (hb hby at_139) rfl rfl ?_
        refine s_aload (pc' := 143) X502.here hx (hb hby at_141) rfl rfl rfl ?_
        refine s_callV (pc' := 146) (W := 0) X502 hx hZ  hown (hw _ (List.mem_of_getElem? (i := 13) rfl)) (hw _ (List.mem_of_getElem? (i := 14) rfl)) (hw _ (List.mem_of_getElem? (i := 4) rfl)) (hw _ (List.mem_of_getElem? (i := 17) rfl)) (hw _ (List.mem_of_getElem? (i := 16) rfl)) (hw _ (List.mem_of_getElem? (i := 15) rfl)) (by decide) eh502 f493 (own_rm3 l Z a0 hw [] ob ba ka1 n vl (((((0 : Int32) + (8 : Int32)) + (4 : Int32)) + (1 : Int32)) + (1 : Int32)) T491.heap n0 Z494 Fb488 Fp489 f493 f492) (by rw [hml]; rfl) [] [] rfl (lenOf own_pd3 rfl) rfl (Nat.le_of_eq rfl) (by decide) (by decide) (by decide) (by decide) rfl (hb hby at_143) fun T504 v504 Lc504 X504 hQ504 => ?_
        obtain ⟨rfl, Nq504, eh504⟩ := hQ504
        have N504 := Fr.app N502 Nq504
        show Ends p.tables e below (T504.setTop (mkF m 146 #[.val (.int p1), .val (.int p2), .val (.int p3), .val (.int n), .val (.int (14 : Int32)), .val (.ref ba), .val (.ref ob), .val (.int (1 : Int32)), .val (.int (0 : Int32)), .unset] [(.int (if (((((0 : Int32) + (8 : Int32)) + (4 : Int32)) + (1 : Int32)) + (1 : Int32)) < n then 1 else 0))])) _
        have hr505 : (if (((((0 : Int32) + (8 : Int32)) + (4 : Int32)) + (1 : Int32)) + (1 : Int32)) < n then (1 : Int32) else 0) = 0 := by rw [pk]; simp only [hkn, if_true, if_false]
        rw [hr505]
        refine s_istore (pc' := 148) X504.here hx (l' := #[.val (.int p1), .val (.int p2), .val (.int p3), .val (.int n), .val (.int (14 : Int32)), .val (.ref ba), .val (.ref ob), .val (.int (1 : Int32)), .val (.int (0 : Int32)), .val (.int (0 : Int32))]) (hb hby at_146) rfl rfl ?_
        refine s_iload (pc' := 150) X504.here hx (hb hby at_148) rfl rfl ?_
        refine s_iload (pc' := 152) X504.here hx (hb hby at_150) rfl rfl ?_
        refine s_iloadN (pc' := 153) X504.here hx (hb hby at_152) rfl rfl ?_
        refine s_icmpYes (pc' := 160) X504.here hx (hb hby at_153) (flt hkn).2.1 (by decide) (by decide) ?_
        refine s_iconst (pc' := 161) X504.here hx (v := (0 : Int32)) (hb hby at_160) rfl rfl ?_
        have hk506 : (0 : Int32) = (0 : Int32) := rfl
        refine s_icmpNo (pc' := 164) X504.here hx (hb hby at_161) (teq hk506).2 rfl ?_
        refine s_iload (pc' := 166) X504.here hx (hb hby at_164) rfl rfl ?_
        refine s_iload (pc' := 168) X504.here hx (hb hby at_166) rfl rfl ?_
        have hk507 : (0 : Int32) = (0 : Int32) := rfl
        refine s_icmpNo (pc' := 171) X504.here hx (hb hby at_168) (teq hk507).2 rfl ?_
        refine s_iconst (pc' := 172) X504.here hx (v := (1 : Int32)) (hb hby at_171) rfl rfl ?_
        refine s_goto (pc' := 176) X504.here hx (hb hby at_172) (by decide) (by decide) ?_
        obtain ⟨fs, hr, hrun, hended, hW, hsame⟩ := X504.leave (v := some (.int (1 : Int32))) (fun h => by rw [Bd.returns] at h; cases h)
        refine ⟨_, _, retN X504 hx (t := .boolean) Bd.returns (by simp) (hb hby at_176) hr, hrun, hended, _, _, rfl, ?_, ⟨_, rfl⟩, hW, hsame.mono (by decide) (by decide)⟩
        show own_rm0_Q Z p1 p2 p3 h0 n0 _ T504.heap _
        rw [eh504]
        exact ⟨rfl, N504⟩
    · subst hq_
      refine s_iload (pc' := 77) X20.here hx (hb hby at_75) rfl rfl ?_
      refine s_bipush (pc' := 79) X20.here hx (v := (8 : Int32)) (hb hby at_77) rfl rfl ?_
      refine s_iand (pc' := 80) X20.here hx (hb hby at_79) rfl ?_
      have hk508 : ¬ (((15 : Int32) &&& (8 : Int32)) = (0 : Int32)) := by decide
      refine s_ifNo (pc' := 83) X20.here hx (hb hby at_80) ((if0 _ _).trans (feq hk508).1) rfl ?_
      refine s_aload (pc' := 85) X20.here hx (hb hby at_83) rfl rfl rfl ?_
      refine s_callV (pc' := 88) (W := 0) X20 hx hZ  hown (hw _ (List.mem_of_getElem? (i := 38) rfl)) (hw _ (List.mem_of_getElem? (i := 39) rfl)) (hw _ (List.mem_of_getElem? (i := 4) rfl)) (hw _ (List.mem_of_getElem? (i := 42) rfl)) (hw _ (List.mem_of_getElem? (i := 41) rfl)) (hw _ (List.mem_of_getElem? (i := 40) rfl)) (by decide) eh20 f18 (own_rm8 l Z a0 hw [] ob ba ka1 n vl (0 : Int32) T16.heap n0 Z19 Fb Fp f18 f17 (by decide) n15 (by have q_ : ((0 : Int32)).toInt + 8 ≤ (15 : Int32).toInt := (by decide); omega) g_ob ne11) (by rw [hml]; rfl) [] [] rfl (lenOf own_pd6 rfl) rfl (Nat.le_of_eq rfl) (by decide) (by decide) (by decide) (by decide) rfl (hb hby at_85) fun T512 v512 Lc512 X512 hQ512 => ?_
      obtain ⟨r511, rfl, Nq512, Kq512, Fb509, Fp510⟩ := hQ512
      have N512 := Fr.app N20 Nq512
      have f513 := f17.keep Kq512 (ninS ne11 nin0)
      have f514 := f18.keep Kq512
      have Z515 : n0 ≤ T512.heap.size := Nat.le_trans Z19 Kq512.1
      show Ends p.tables e below (T512.setTop (mkF m 88 #[.val (.int p1), .val (.int p2), .val (.int p3), .val (.int n), .val (.int (15 : Int32)), .val (.ref ba), .val (.ref ob), .val (.int (1 : Int32)), .unset, .unset] [(.long r511)])) _
      refine s_pop2L (pc' := 89) X512.here hx (hb hby at_88) rfl ?_
      refine s_iload (pc' := 91) X512.here hx (hb hby at_89) rfl rfl ?_
      refine s_iconst (pc' := 92) X512.here hx (v := (4 : Int32)) (hb hby at_91) rfl rfl ?_
      refine s_iand (pc' := 93) X512.here hx (hb hby at_92) rfl ?_
      have hk516 : ¬ (((15 : Int32) &&& (4 : Int32)) = (0 : Int32)) := by decide
      refine s_ifNo (pc' := 96) X512.here hx (hb hby at_93) ((if0 _ _).trans (feq hk516).1) rfl ?_
      refine s_aload (pc' := 98) X512.here hx (hb hby at_96) rfl rfl rfl ?_
      refine s_callV (pc' := 101) (W := 0) X512 hx hZ  hown (hw _ (List.mem_of_getElem? (i := 20) rfl)) (hw _ (List.mem_of_getElem? (i := 21) rfl)) (hw _ (List.mem_of_getElem? (i := 4) rfl)) (hw _ (List.mem_of_getElem? (i := 24) rfl)) (hw _ (List.mem_of_getElem? (i := 23) rfl)) (hw _ (List.mem_of_getElem? (i := 22) rfl)) (by decide) rfl f514 (own_rm4 l Z a0 hw [] ob ba ka1 n vl ((0 : Int32) + (8 : Int32)) T512.heap n0 Z515 Fb509 Fp510 f514 f513 (by decide) n15 (by have q_ : (((0 : Int32) + (8 : Int32))).toInt + 4 ≤ (15 : Int32).toInt := (by decide); omega) g_ob ne11) (by rw [hml]; rfl) [] [] rfl (lenOf own_pd5 rfl) rfl (Nat.le_of_eq rfl) (by decide) (by decide) (by decide) (by decide) rfl (hb hby at_98) fun T520 v520 Lc520 X520 hQ520 => ?_
      obtain ⟨r519, rfl, Nq520, Kq520, Fb517, Fp518⟩ := hQ520
      have N520 := Fr.app N512 Nq520
      have f521 := f513.keep Kq520 (ninS ne11 nin0)
      have f522 := f514.keep Kq520
      have Z523 : n0 ≤ T520.heap.size := Nat.le_trans Z515 Kq520.1
      show Ends p.tables e below (T520.setTop (mkF m 101 #[.val (.int p1), .val (.int p2), .val (.int p3), .val (.int n), .val (.int (15 : Int32)), .val (.ref ba), .val (.ref ob), .val (.int (1 : Int32)), .unset, .unset] [(.int r519)])) _
      refine s_pop (pc' := 102) X520.here hx (hb hby at_101) rfl rfl ?_
      refine s_iload (pc' := 104) X520.here hx (hb hby at_102) rfl rfl ?_
      refine s_iconst (pc' := 105) X520.here hx (v := (2 : Int32)) (hb hby at_104) rfl rfl ?_
      refine s_iand (pc' := 106) X520.here hx (hb hby at_105) rfl ?_
      have hk524 : ¬ (((15 : Int32) &&& (2 : Int32)) = (0 : Int32)) := by decide
      refine s_ifNo (pc' := 109) X520.here hx (hb hby at_106) ((if0 _ _).trans (feq hk524).1) rfl ?_
      refine s_aload (pc' := 111) X520.here hx (hb hby at_109) rfl rfl rfl ?_
      refine s_callV (pc' := 114) (W := 0) X520 hx hZ  hown (hw _ (List.mem_of_getElem? (i := 33) rfl)) (hw _ (List.mem_of_getElem? (i := 34) rfl)) (hw _ (List.mem_of_getElem? (i := 4) rfl)) (hw _ (List.mem_of_getElem? (i := 37) rfl)) (hw _ (List.mem_of_getElem? (i := 36) rfl)) (hw _ (List.mem_of_getElem? (i := 35) rfl)) (by decide) rfl f522 (own_rm7 l Z a0 hw [] ob ba ka1 n vl (((0 : Int32) + (8 : Int32)) + (4 : Int32)) T520.heap n0 Z523 Fb517 Fp518 f522 f521 (by decide) n15 (by have q_ : ((((0 : Int32) + (8 : Int32)) + (4 : Int32))).toInt + 1 ≤ (15 : Int32).toInt := (by decide); omega) g_ob ne11) (by rw [hml]; rfl) [] [] rfl (lenOf own_pd4 rfl) rfl (Nat.le_of_eq rfl) (by decide) (by decide) (by decide) (by decide) rfl (hb hby at_111) fun T528 v528 Lc528 X528 hQ528 => ?_
      obtain ⟨r527, rfl, Nq528, Kq528, Fb525, Fp526⟩ := hQ528
      have N528 := Fr.app N520 Nq528
      have f529 := f521.keep Kq528 (ninS ne11 nin0)
      have f530 := f522.keep Kq528
      have Z531 : n0 ≤ T528.heap.size := Nat.le_trans Z523 Kq528.1
      show Ends p.tables e below (T528.setTop (mkF m 114 #[.val (.int p1), .val (.int p2), .val (.int p3), .val (.int n), .val (.int (15 : Int32)), .val (.ref ba), .val (.ref ob), .val (.int (1 : Int32)), .unset, .unset] [(.int r527)])) _
      refine s_pop (pc' := 115) X528.here hx (hb hby at_114) rfl rfl ?_
      refine s_aload (pc' := 117) X528.here hx (hb hby at_115) rfl rfl rfl ?_
      refine s_callV (pc' := 120) (W := 0) X528 hx hZ  hown (hw _ (List.mem_of_getElem? (i := 33) rfl)) (hw _ (List.mem_of_getElem? (i := 34) rfl)) (hw _ (List.mem_of_getElem? (i := 4) rfl)) (hw _ (List.mem_of_getElem? (i := 37) rfl)) (hw _ (List.mem_of_getElem? (i := 36) rfl)) (hw _ (List.mem_of_getElem? (i := 35) rfl)) (by decide) rfl f530 (own_rm7 l Z a0 hw [] ob ba ka1 n vl ((((0 : Int32) + (8 : Int32)) + (4 : Int32)) + (1 : Int32)) T528.heap n0 Z531 Fb525 Fp526 f530 f529 (by decide) n15 (by have q_ : (((((0 : Int32) + (8 : Int32)) + (4 : Int32)) + (1 : Int32))).toInt + 1 ≤ (15 : Int32).toInt := (by decide); omega) g_ob ne11) (by rw [hml]; rfl) [] [] rfl (lenOf own_pd4 rfl) rfl (Nat.le_of_eq rfl) (by decide) (by decide) (by decide) (by decide) rfl (hb hby at_117) fun T535 v535 Lc535 X535 hQ535 => ?_
      obtain ⟨r534, rfl, Nq535, Kq535, Fb532, Fp533⟩ := hQ535
      have N535 := Fr.app N528 Nq535
      have f536 := f529.keep Kq535 (ninS ne11 nin0)
      have f537 := f530.keep Kq535
      have Z538 : n0 ≤ T535.heap.size := Nat.le_trans Z531 Kq535.1
      show Ends p.tables e below (T535.setTop (mkF m 120 #[.val (.int p1), .val (.int p2), .val (.int p3), .val (.int n), .val (.int (15 : Int32)), .val (.ref ba), .val (.ref ob), .val (.int (1 : Int32)), .unset, .unset] [(.int r534)])) _
      refine s_pop (pc' := 121) X535.here hx (hb hby at_120) rfl rfl ?_
      refine s_iload (pc' := 123) X535.here hx (hb hby at_121) rfl rfl ?_
      refine s_iconst (pc' := 124) X535.here hx (v := (1 : Int32)) (hb hby at_123) rfl rfl ?_
      refine s_iand (pc' := 125) X535.here hx (hb hby at_124) rfl ?_
      have hk539 : ¬ (((15 : Int32) &&& (1 : Int32)) = (0 : Int32)) := by decide
      refine s_ifNo (pc' := 128) X535.here hx (hb hby at_125) ((if0 _ _).trans (feq hk539).1) rfl ?_
      refine s_aload (pc' := 130) X535.here hx (hb hby at_128) rfl rfl rfl ?_
      refine s_callV (pc' := 133) (W := 0) X535 hx hZ  hown (hw _ (List.mem_of_getElem? (i := 33) rfl)) (hw _ (List.mem_of_getElem? (i := 34) rfl)) (hw _ (List.mem_of_getElem? (i := 4) rfl)) (hw _ (List.mem_of_getElem? (i := 37) rfl)) (hw _ (List.mem_of_getElem? (i := 36) rfl)) (hw _ (List.mem_of_getElem? (i := 35) rfl)) (by decide) rfl f537 (own_rm7 l Z a0 hw [] ob ba ka1 n vl (((((0 : Int32) + (8 : Int32)) + (4 : Int32)) + (1 : Int32)) + (1 : Int32)) T535.heap n0 Z538 Fb532 Fp533 f537 f536 (by decide) n15 (by have q_ : ((((((0 : Int32) + (8 : Int32)) + (4 : Int32)) + (1 : Int32)) + (1 : Int32))).toInt + 1 ≤ (15 : Int32).toInt := (by decide); omega) g_ob ne11) (by rw [hml]; rfl) [] [] rfl (lenOf own_pd4 rfl) rfl (Nat.le_of_eq rfl) (by decide) (by decide) (by decide) (by decide) rfl (hb hby at_130) fun T543 v543 Lc543 X543 hQ543 => ?_
      obtain ⟨r542, rfl, Nq543, Kq543, Fb540, Fp541⟩ := hQ543
      have N543 := Fr.app N535 Nq543
      have f544 := f536.keep Kq543 (ninS ne11 nin0)
      have f545 := f537.keep Kq543
      have Z546 : n0 ≤ T543.heap.size := Nat.le_trans Z538 Kq543.1
      show Ends p.tables e below (T543.setTop (mkF m 133 #[.val (.int p1), .val (.int p2), .val (.int p3), .val (.int n), .val (.int (15 : Int32)), .val (.ref ba), .val (.ref ob), .val (.int (1 : Int32)), .unset, .unset] [(.int r542)])) _
      refine s_pop (pc' := 134) X543.here hx (hb hby at_133) rfl rfl ?_
      refine s_aload (pc' := 136) X543.here hx (hb hby at_134) rfl rfl rfl ?_
      have pk : ((((((0 : Int32) + (8 : Int32)) + (4 : Int32)) + (1 : Int32)) + (1 : Int32)) + (1 : Int32)) = (15 : Int32) := by decide
      by_cases hkn : (15 : Int32) < n
      · refine s_callV (pc' := 139) (W := 0) X543 hx hZ  hown (hw _ (List.mem_of_getElem? (i := 13) rfl)) (hw _ (List.mem_of_getElem? (i := 14) rfl)) (hw _ (List.mem_of_getElem? (i := 4) rfl)) (hw _ (List.mem_of_getElem? (i := 17) rfl)) (hw _ (List.mem_of_getElem? (i := 16) rfl)) (hw _ (List.mem_of_getElem? (i := 15) rfl)) (by decide) rfl f545 (own_rm3 l Z a0 hw [] ob ba ka1 n vl ((((((0 : Int32) + (8 : Int32)) + (4 : Int32)) + (1 : Int32)) + (1 : Int32)) + (1 : Int32)) T543.heap n0 Z546 Fb540 Fp541 f545 f544) (by rw [hml]; rfl) [] [] rfl (lenOf own_pd3 rfl) rfl (Nat.le_of_eq rfl) (by decide) (by decide) (by decide) (by decide) rfl (hb hby at_136) fun T547 v547 Lc547 X547 hQ547 => ?_
        obtain ⟨rfl, Nq547, eh547⟩ := hQ547
        have N547 := Fr.app N543 Nq547
        show Ends p.tables e below (T547.setTop (mkF m 139 #[.val (.int p1), .val (.int p2), .val (.int p3), .val (.int n), .val (.int (15 : Int32)), .val (.ref ba), .val (.ref ob), .val (.int (1 : Int32)), .unset, .unset] [(.int (if ((((((0 : Int32) + (8 : Int32)) + (4 : Int32)) + (1 : Int32)) + (1 : Int32)) + (1 : Int32)) < n then 1 else 0))])) _
        have hr548 : (if ((((((0 : Int32) + (8 : Int32)) + (4 : Int32)) + (1 : Int32)) + (1 : Int32)) + (1 : Int32)) < n then (1 : Int32) else 0) = 1 := by rw [pk]; simp only [hkn, if_true, if_false]
        rw [hr548]
        refine s_istore (pc' := 141) X547.here hx (l' := #[.val (.int p1), .val (.int p2), .val (.int p3), .val (.int n), .val (.int (15 : Int32)), .val (.ref ba), .val (.ref ob), .val (.int (1 : Int32)), .val (.int (1 : Int32)), .unset]) (hb hby at_139) rfl rfl ?_
        refine s_aload (pc' := 143) X547.here hx (hb hby at_141) rfl rfl rfl ?_
        refine s_callV (pc' := 146) (W := 0) X547 hx hZ  hown (hw _ (List.mem_of_getElem? (i := 13) rfl)) (hw _ (List.mem_of_getElem? (i := 14) rfl)) (hw _ (List.mem_of_getElem? (i := 4) rfl)) (hw _ (List.mem_of_getElem? (i := 17) rfl)) (hw _ (List.mem_of_getElem? (i := 16) rfl)) (hw _ (List.mem_of_getElem? (i := 15) rfl)) (by decide) eh547 f545 (own_rm3 l Z a0 hw [] ob ba ka1 n vl ((((((0 : Int32) + (8 : Int32)) + (4 : Int32)) + (1 : Int32)) + (1 : Int32)) + (1 : Int32)) T543.heap n0 Z546 Fb540 Fp541 f545 f544) (by rw [hml]; rfl) [] [] rfl (lenOf own_pd3 rfl) rfl (Nat.le_of_eq rfl) (by decide) (by decide) (by decide) (by decide) rfl (hb hby at_143) fun T549 v549 Lc549 X549 hQ549 => ?_
        obtain ⟨rfl, Nq549, eh549⟩ := hQ549
        have N549 := Fr.app N547 Nq549
        show Ends p.tables e below (T549.setTop (mkF m 146 #[.val (.int p1), .val (.int p2), .val (.int p3), .val (.int n), .val (.int (15 : Int32)), .val (.ref ba), .val (.ref ob), .val (.int (1 : Int32)), .val (.int (1 : Int32)), .unset] [(.int (if ((((((0 : Int32) + (8 : Int32)) + (4 : Int32)) + (1 : Int32)) + (1 : Int32)) + (1 : Int32)) < n then 1 else 0))])) _
        have hr550 : (if ((((((0 : Int32) + (8 : Int32)) + (4 : Int32)) + (1 : Int32)) + (1 : Int32)) + (1 : Int32)) < n then (1 : Int32) else 0) = 1 := by rw [pk]; simp only [hkn, if_true, if_false]
        rw [hr550]
        refine s_istore (pc' := 148) X549.here hx (l' := #[.val (.int p1), .val (.int p2), .val (.int p3), .val (.int n), .val (.int (15 : Int32)), .val (.ref ba), .val (.ref ob), .val (.int (1 : Int32)), .val (.int (1 : Int32)), .val (.int (1 : Int32))]) (hb hby at_146) rfl rfl ?_
        refine s_iload (pc' := 150) X549.here hx (hb hby at_148) rfl rfl ?_
        refine s_iload (pc' := 152) X549.here hx (hb hby at_150) rfl rfl ?_
        refine s_iloadN (pc' := 153) X549.here hx (hb hby at_152) rfl rfl ?_
        refine s_icmpNo (pc' := 156) X549.here hx (hb hby at_153) (tlt hkn).2.1 rfl ?_
        refine s_iconst (pc' := 157) X549.here hx (v := (1 : Int32)) (hb hby at_156) rfl rfl ?_
        refine s_goto (pc' := 161) X549.here hx (hb hby at_157) (by decide) (by decide) ?_
        have hk551 : (1 : Int32) = (1 : Int32) := rfl
        refine s_icmpNo (pc' := 164) X549.here hx (hb hby at_161) (teq hk551).2 rfl ?_
        refine s_iload (pc' := 166) X549.here hx (hb hby at_164) rfl rfl ?_
        refine s_iload (pc' := 168) X549.here hx (hb hby at_166) rfl rfl ?_
        have hk552 : (1 : Int32) = (1 : Int32) := rfl
        refine s_icmpNo (pc' := 171) X549.here hx (hb hby at_168) (teq hk552).2 rfl ?_
        refine s_iconst (pc' := 172) X549.here hx (v := (1 : Int32)) (hb hby at_171) rfl rfl ?_
        refine s_goto (pc' := 176) X549.here hx (hb hby at_172) (by decide) (by decide) ?_
        obtain ⟨fs, hr, hrun, hended, hW, hsame⟩ := X549.leave (v := some (.int (1 : Int32))) (fun h => by rw [Bd.returns] at h; cases h)
        refine ⟨_, _, retN X549 hx (t := .boolean) Bd.returns (by simp) (hb hby at_176) hr, hrun, hended, _, _, rfl, ?_, ⟨_, rfl⟩, hW, hsame.mono (by decide) (by decide)⟩
        show own_rm0_Q Z p1 p2 p3 h0 n0 _ T549.heap _
        rw [eh549]
        exact ⟨rfl, N549⟩
      · refine s_callV (pc' := 139) (W := 0) X543 hx hZ  hown (hw _ (List.mem_of_getElem? (i := 13) rfl)) (hw _ (List.mem_of_getElem? (i := 14) rfl)) (hw _ (List.mem_of_getElem? (i := 4) rfl)) (hw _ (List.mem_of_getElem? (i := 17) rfl)) (hw _ (List.mem_of_getElem? (i := 16) rfl)) (hw _ (List.mem_of_getElem? (i := 15) rfl)) (by decide) rfl f545 (own_rm3 l Z a0 hw [] ob ba ka1 n vl ((((((0 : Int32) + (8 : Int32)) + (4 : Int32)) + (1 : Int32)) + (1 : Int32)) + (1 : Int32)) T543.heap n0 Z546 Fb540 Fp541 f545 f544) (by rw [hml]; rfl) [] [] rfl (lenOf own_pd3 rfl) rfl (Nat.le_of_eq rfl) (by decide) (by decide) (by decide) (by decide) rfl (hb hby at_136) fun T553 v553 Lc553 X553 hQ553 => ?_
        obtain ⟨rfl, Nq553, eh553⟩ := hQ553
        have N553 := Fr.app N543 Nq553
        show Ends p.tables e below (T553.setTop (mkF m 139 #[.val (.int p1), .val (.int p2), .val (.int p3), .val (.int n), .val (.int (15 : Int32)), .val (.ref ba), .val (.ref ob), .val (.int (1 : Int32)), .unset, .unset] [(.int (if ((((((0 : Int32) + (8 : Int32)) + (4 : Int32)) + (1 : Int32)) + (1 : Int32)) + (1 : Int32)) < n then 1 else 0))])) _
        have hr554 : (if ((((((0 : Int32) + (8 : Int32)) + (4 : Int32)) + (1 : Int32)) + (1 : Int32)) + (1 : Int32)) < n then (1 : Int32) else 0) = 0 := by rw [pk]; simp only [hkn, if_true, if_false]
        rw [hr554]
        refine s_istore (pc' := 141) X553.here hx (l' := #[.val (.int p1), .val (.int p2), .val (.int p3), .val (.int n), .val (.int (15 : Int32)), .val (.ref ba), .val (.ref ob), .val (.int (1 : Int32)), .val (.int (0 : Int32)), .unset]) (hb hby at_139) rfl rfl ?_
        refine s_aload (pc' := 143) X553.here hx (hb hby at_141) rfl rfl rfl ?_
        refine s_callV (pc' := 146) (W := 0) X553 hx hZ  hown (hw _ (List.mem_of_getElem? (i := 13) rfl)) (hw _ (List.mem_of_getElem? (i := 14) rfl)) (hw _ (List.mem_of_getElem? (i := 4) rfl)) (hw _ (List.mem_of_getElem? (i := 17) rfl)) (hw _ (List.mem_of_getElem? (i := 16) rfl)) (hw _ (List.mem_of_getElem? (i := 15) rfl)) (by decide) eh553 f545 (own_rm3 l Z a0 hw [] ob ba ka1 n vl ((((((0 : Int32) + (8 : Int32)) + (4 : Int32)) + (1 : Int32)) + (1 : Int32)) + (1 : Int32)) T543.heap n0 Z546 Fb540 Fp541 f545 f544) (by rw [hml]; rfl) [] [] rfl (lenOf own_pd3 rfl) rfl (Nat.le_of_eq rfl) (by decide) (by decide) (by decide) (by decide) rfl (hb hby at_143) fun T555 v555 Lc555 X555 hQ555 => ?_
        obtain ⟨rfl, Nq555, eh555⟩ := hQ555
        have N555 := Fr.app N553 Nq555
        show Ends p.tables e below (T555.setTop (mkF m 146 #[.val (.int p1), .val (.int p2), .val (.int p3), .val (.int n), .val (.int (15 : Int32)), .val (.ref ba), .val (.ref ob), .val (.int (1 : Int32)), .val (.int (0 : Int32)), .unset] [(.int (if ((((((0 : Int32) + (8 : Int32)) + (4 : Int32)) + (1 : Int32)) + (1 : Int32)) + (1 : Int32)) < n then 1 else 0))])) _
        have hr556 : (if ((((((0 : Int32) + (8 : Int32)) + (4 : Int32)) + (1 : Int32)) + (1 : Int32)) + (1 : Int32)) < n then (1 : Int32) else 0) = 0 := by rw [pk]; simp only [hkn, if_true, if_false]
        rw [hr556]
        refine s_istore (pc' := 148) X555.here hx (l' := #[.val (.int p1), .val (.int p2), .val (.int p3), .val (.int n), .val (.int (15 : Int32)), .val (.ref ba), .val (.ref ob), .val (.int (1 : Int32)), .val (.int (0 : Int32)), .val (.int (0 : Int32))]) (hb hby at_146) rfl rfl ?_
        refine s_iload (pc' := 150) X555.here hx (hb hby at_148) rfl rfl ?_
        refine s_iload (pc' := 152) X555.here hx (hb hby at_150) rfl rfl ?_
        refine s_iloadN (pc' := 153) X555.here hx (hb hby at_152) rfl rfl ?_
        refine s_icmpYes (pc' := 160) X555.here hx (hb hby at_153) (flt hkn).2.1 (by decide) (by decide) ?_
        refine s_iconst (pc' := 161) X555.here hx (v := (0 : Int32)) (hb hby at_160) rfl rfl ?_
        have hk557 : (0 : Int32) = (0 : Int32) := rfl
        refine s_icmpNo (pc' := 164) X555.here hx (hb hby at_161) (teq hk557).2 rfl ?_
        refine s_iload (pc' := 166) X555.here hx (hb hby at_164) rfl rfl ?_
        refine s_iload (pc' := 168) X555.here hx (hb hby at_166) rfl rfl ?_
        have hk558 : (0 : Int32) = (0 : Int32) := rfl
        refine s_icmpNo (pc' := 171) X555.here hx (hb hby at_168) (teq hk558).2 rfl ?_
        refine s_iconst (pc' := 172) X555.here hx (v := (1 : Int32)) (hb hby at_171) rfl rfl ?_
        refine s_goto (pc' := 176) X555.here hx (hb hby at_172) (by decide) (by decide) ?_
        obtain ⟨fs, hr, hrun, hended, hW, hsame⟩ := X555.leave (v := some (.int (1 : Int32))) (fun h => by rw [Bd.returns] at h; cases h)
        refine ⟨_, _, retN X555 hx (t := .boolean) Bd.returns (by simp) (hb hby at_176) hr, hrun, hended, _, _, rfl, ?_, ⟨_, rfl⟩, hW, hsame.mono (by decide) (by decide)⟩
        show own_rm0_Q Z p1 p2 p3 h0 n0 _ T555.heap _
        rw [eh555]
        exact ⟨rfl, N555⟩
  · refine s_ifYes (pc' := 41) X1.here hx (hb hby at_21) ((if0 _ _).trans (flt hn1).2.2.2) (by decide) (by decide) ?_
    have hn0 : ¬ (0 : Int32).toInt < n.toInt := fun q => hn1 (Int32.lt_iff_toInt_lt.mpr q)
    have kz : kv0 = 0 := Int32.toInt_inj.mp (by omega)
    subst kz
    refine s_newO (pc' := 44) X1 hx hZ hown (hw _ (List.mem_of_getElem? (i := 2) rfl)) (hw _ (List.mem_of_getElem? (i := 3) rfl)) (hw _ (List.mem_of_getElem? (i := 4) rfl)) e1 (hb hby at_41) (by decide) (by decide) rfl fun T559 hp559 X559 e559 E559 ob gq559 A559 D559 => ?_
    have g_ob : n0 ≤ ob := Nat.le_trans Z2 (Nat.le_of_eq gq559.symm)
    have ne560 : ba ≠ ob := Nat.ne_of_lt (Nat.lt_of_lt_of_le V3.lt (Nat.le_of_eq gq559.symm))
    have f561 := V3.ext E559
    have Z562 : n0 ≤ hp559.size := Nat.le_trans Z2 E559.1
    have F563 : Fld Z hp559 ob "com/example/prudent_till/prudenttill/store/StoredFields$Reader" "bytes" "[B" .null := D559 (Or.inr (hw _ (List.mem_of_getElem? (i := 12) rfl))) (ty := (.array .byte)) (by decide)
    have F564 : Fld Z hp559 ob "com/example/prudent_till/prudenttill/store/StoredFields$Reader" "position" "I" (.int (0 : Int32)) := D559 (Or.inl (hw _ (List.mem_of_getElem? (i := 19) rfl))) (ty := .int) (by decide)
    refine s_dup (pc' := 45) X559.here hx (hb hby at_44) rfl rfl ?_
    refine s_aload (pc' := 47) X559.here hx (hb hby at_45) rfl rfl rfl ?_
    refine s_callI (pc' := 50) (W := 1) X559 hx hZ  rfl hown (hw _ (List.mem_of_getElem? (i := 5) rfl)) (hw _ (List.mem_of_getElem? (i := 6) rfl)) (hw _ (List.mem_of_getElem? (i := 4) rfl)) (hw _ (List.mem_of_getElem? (i := 7) rfl)) (by decide) e559 (own_rm1 l Z a0 hw [] ob ba hp559 n0 Z562 F563 F564 A559 g_ob) ob (by rw [hml]; rfl) [(.ref ba)] [(.ref ob)] rfl (lenOf own_pd2 rfl) rfl (Nat.le_of_eq rfl) (by decide) (by decide) (by decide) (by decide) rfl (hb hby at_47) fun T565 v565 Lc565 X565 hQ565 => ?_
    obtain ⟨rfl, Nq565, Kq565, Fb, Fp⟩ := hQ565
    have N565 := Fr.app N0 Nq565
    have f566 := f561.keep Kq565 (ninS ne560 nin0)
    have f567 := A559.keep Kq565
    have Z568 : n0 ≤ T565.heap.size := Nat.le_trans Z562 Kq565.1
    show Ends p.tables e below (T565.setTop (mkF m 50 #[.val (.int p1), .val (.int p2), .val (.int p3), .val (.int n), .val (.int (0 : Int32)), .val (.ref ba), .unset, .unset, .unset, .unset] [(.ref ob)])) _
    refine s_astore (pc' := 52) X565.here hx (l' := #[.val (.int p1), .val (.int p2), .val (.int p3), .val (.int n), .val (.int (0 : Int32)), .val (.ref ba), .val (.ref ob), .unset, .unset, .unset]) (hb hby at_50) rfl rfl rfl ?_
    refine s_aload (pc' := 54) X565.here hx (hb hby at_52) rfl rfl rfl ?_
    refine s_callV (pc' := 57) (W := 0) X565 hx hZ  hown (hw _ (List.mem_of_getElem? (i := 13) rfl)) (hw _ (List.mem_of_getElem? (i := 14) rfl)) (hw _ (List.mem_of_getElem? (i := 4) rfl)) (hw _ (List.mem_of_getElem? (i := 17) rfl)) (hw _ (List.mem_of_getElem? (i := 16) rfl)) (hw _ (List.mem_of_getElem? (i := 15) rfl)) (by decide) rfl f567 (own_rm3 l Z a0 hw [] ob ba ka1 n [(.int (0 : Int32)), (.int (0 : Int32)), (.int (0 : Int32)), (.int (0 : Int32)), (.int (0 : Int32)), (.int (0 : Int32)), (.int (0 : Int32)), (.int (0 : Int32)), (.int (0 : Int32)), (.int (0 : Int32)), (.int (0 : Int32)), (.int (0 : Int32)), (.int (0 : Int32)), (.int (0 : Int32)), (.int (0 : Int32))] (0 : Int32) T565.heap n0 Z568 Fb Fp f567 f566) (by rw [hml]; rfl) [] [] rfl (lenOf own_pd3 rfl) rfl (Nat.le_of_eq rfl) (by decide) (by decide) (by decide) (by decide) rfl (hb hby at_54) fun T569 v569 Lc569 X569 hQ569 => ?_
    obtain ⟨rfl, Nq569, eh569⟩ := hQ569
    have N569 := Fr.app N565 Nq569
    show Ends p.tables e below (T569.setTop (mkF m 57 #[.val (.int p1), .val (.int p2), .val (.int p3), .val (.int n), .val (.int (0 : Int32)), .val (.ref ba), .val (.ref ob), .unset, .unset, .unset] [(.int (if (0 : Int32) < n then 1 else 0))])) _
    have hr570 : (if (0 : Int32) < n then (1 : Int32) else 0) = 0 := by simp only [hn1, if_false]
    rw [hr570]
    refine s_istore (pc' := 59) X569.here hx (l' := #[.val (.int p1), .val (.int p2), .val (.int p3), .val (.int n), .val (.int (0 : Int32)), .val (.ref ba), .val (.ref ob), .val (.int (0 : Int32)), .unset, .unset]) (hb hby at_57) rfl rfl ?_
    refine s_iload (pc' := 61) X569.here hx (hb hby at_59) rfl rfl ?_
    refine s_iloadN (pc' := 62) X569.here hx (hb hby at_61) rfl rfl ?_
    refine s_ifYes (pc' := 69) X569.here hx (hb hby at_62) ((if0 _ _).trans (flt hn1).2.2.2) (by decide) (by decide) ?_
    refine s_iconst (pc' := 70) X569.here hx (v := (0 : Int32)) (hb hby at_69) rfl rfl ?_
    have hk571 : (0 : Int32) = (0 : Int32) := rfl
    refine s_icmpYes (pc' := 75) X569.here hx (hb hby at_70) (teq hk571).1 (by decide) (by decide) ?_
    refine s_iload (pc' := 77) X569.here hx (hb hby at_75) rfl rfl ?_
    refine s_bipush (pc' := 79) X569.here hx (v := (8 : Int32)) (hb hby at_77) rfl rfl ?_
    refine s_iand (pc' := 80) X569.here hx (hb hby at_79) rfl ?_
    have hk572 : ((0 : Int32) &&& (8 : Int32)) = (0 : Int32) := by decide
    refine s_ifYes (pc' := 89) X569.here hx (hb hby at_80) ((if0 _ _).trans (teq hk572).1) (by decide) (by decide) ?_
    refine s_iload (pc' := 91) X569.here hx (hb hby at_89) rfl rfl ?_
    refine s_iconst (pc' := 92) X569.here hx (v := (4 : Int32)) (hb hby at_91) rfl rfl ?_
    refine s_iand (pc' := 93) X569.here hx (hb hby at_92) rfl ?_
    have hk573 : ((0 : Int32) &&& (4 : Int32)) = (0 : Int32) := by decide
    refine s_ifYes (pc' := 102) X569.here hx (hb hby at_93) ((if0 _ _).trans (teq hk573).1) (by decide) (by decide) ?_
    refine s_iload (pc' := 104) X569.here hx (hb hby at_102) rfl rfl ?_
    refine s_iconst (pc' := 105) X569.here hx (v := (2 : Int32)) (hb hby at_104) rfl rfl ?_
    refine s_iand (pc' := 106) X569.here hx (hb hby at_105) rfl ?_
    have hk574 : ((0 : Int32) &&& (2 : Int32)) = (0 : Int32) := by decide
    refine s_ifYes (pc' := 121) X569.here hx (hb hby at_106) ((if0 _ _).trans (teq hk574).1) (by decide) (by decide) ?_
    refine s_iload (pc' := 123) X569.here hx (hb hby at_121) rfl rfl ?_
    refine s_iconst (pc' := 124) X569.here hx (v := (1 : Int32)) (hb hby at_123) rfl rfl ?_
    refine s_iand (pc' := 125) X569.here hx (hb hby at_124) rfl ?_
    have hk575 : ((0 : Int32) &&& (1 : Int32)) = (0 : Int32) := by decide
    refine s_ifYes (pc' := 134) X569.here hx (hb hby at_125) ((if0 _ _).trans (teq hk575).1) (by decide) (by decide) ?_
    refine s_aload (pc' := 136) X569.here hx (hb hby at_134) rfl rfl rfl ?_
    have pk : (0 : Int32) = (0 : Int32) := by decide
    by_cases hkn : (0 : Int32) < n
    · refine s_callV (pc' := 139) (W := 0) X569 hx hZ  hown (hw _ (List.mem_of_getElem? (i := 13) rfl)) (hw _ (List.mem_of_getElem? (i := 14) rfl)) (hw _ (List.mem_of_getElem? (i := 4) rfl)) (hw _ (List.mem_of_getElem? (i := 17) rfl)) (hw _ (List.mem_of_getElem? (i := 16) rfl)) (hw _ (List.mem_of_getElem? (i := 15) rfl)) (by decide) eh569 f567 (own_rm3 l Z a0 hw [] ob ba ka1 n [(.int (0 : Int32)), (.int (0 : Int32)), (.int (0 : Int32)), (.int (0 : Int32)), (.int (0 : Int32)), (.int (0 : Int32)), (.int (0 : Int32)), (.int (0 : Int32)), (.int (0 : Int32)), (.int (0 : Int32)), (.int (0 : Int32)), (.int (0 : Int32)), (.int (0 : Int32)), (.int (0 : Int32)), (.int (0 : Int32))] (0 : Int32) T565.heap n0 Z568 Fb Fp f567 f566) (by rw [hml]; rfl) [] [] rfl (lenOf own_pd3 rfl) rfl (Nat.le_of_eq rfl) (by decide) (by decide) (by decide) (by decide) rfl (hb hby at_136) fun T576 v576 Lc576 X576 hQ576 => ?_
      obtain ⟨rfl, Nq576, eh576⟩ := hQ576
      have N576 := Fr.app N569 Nq576
      show Ends p.tables e below (T576.setTop (mkF m 139 #[.val (.int p1), .val (.int p2), .val (.int p3), .val (.int n), .val (.int (0 : Int32)), .val (.ref ba), .val (.ref ob), .val (.int (0 : Int32)), .unset, .unset] [(.int (if (0 : Int32) < n then 1 else 0))])) _
      have hr577 : (if (0 : Int32) < n then (1 : Int32) else 0) = 1 := by rw [pk]; simp only [hkn, if_true, if_false]
      rw [hr577]
      refine s_istore (pc' := 141) X576.here hx (l' := #[.val (.int p1), .val (.int p2), .val (.int p3), .val (.int n), .val (.int (0 : Int32)), .val (.ref ba), .val (.ref ob), .val (.int (0 : Int32)), .val (.int (1 : Int32)), .unset]) (hb hby at_139) rfl rfl ?_
      refine s_aload (pc' := 143) X576.here hx (hb hby at_141) rfl rfl rfl ?_
      refine s_callV (pc' := 146) (W := 0) X576 hx hZ  hown (hw _ (List.mem_of_getElem? (i := 13) rfl)) (hw _ (List.mem_of_getElem? (i := 14) rfl)) (hw _ (List.mem_of_getElem? (i := 4) rfl)) (hw _ (List.mem_of_getElem? (i := 17) rfl)) (hw _ (List.mem_of_getElem? (i := 16) rfl)) (hw _ (List.mem_of_getElem? (i := 15) rfl)) (by decide) eh576 f567 (own_rm3 l Z a0 hw [] ob ba ka1 n [(.int (0 : Int32)), (.int (0 : Int32)), (.int (0 : Int32)), (.int (0 : Int32)), (.int (0 : Int32)), (.int (0 : Int32)), (.int (0 : Int32)), (.int (0 : Int32)), (.int (0 : Int32)), (.int (0 : Int32)), (.int (0 : Int32)), (.int (0 : Int32)), (.int (0 : Int32)), (.int (0 : Int32)), (.int (0 : Int32))] (0 : Int32) T565.heap n0 Z568 Fb Fp f567 f566) (by rw [hml]; rfl) [] [] rfl (lenOf own_pd3 rfl) rfl (Nat.le_of_eq rfl) (by decide) (by decide) (by decide) (by decide) rfl (hb hby at_143) fun T578 v578 Lc578 X578 hQ578 => ?_
      obtain ⟨rfl, Nq578, eh578⟩ := hQ578
      have N578 := Fr.app N576 Nq578
      show Ends p.tables e below (T578.setTop (mkF m 146 #[.val (.int p1), .val (.int p2), .val (.int p3), .val (.int n), .val (.int (0 : Int32)), .val (.ref ba), .val (.ref ob), .val (.int (0 : Int32)), .val (.int (1 : Int32)), .unset] [(.int (if (0 : Int32) < n then 1 else 0))])) _
      have hr579 : (if (0 : Int32) < n then (1 : Int32) else 0) = 1 := by rw [pk]; simp only [hkn, if_true, if_false]
      rw [hr579]
      refine s_istore (pc' := 148) X578.here hx (l' := #[.val (.int p1), .val (.int p2), .val (.int p3), .val (.int n), .val (.int (0 : Int32)), .val (.ref ba), .val (.ref ob), .val (.int (0 : Int32)), .val (.int (1 : Int32)), .val (.int (1 : Int32))]) (hb hby at_146) rfl rfl ?_
      refine s_iload (pc' := 150) X578.here hx (hb hby at_148) rfl rfl ?_
      refine s_iload (pc' := 152) X578.here hx (hb hby at_150) rfl rfl ?_
      refine s_iloadN (pc' := 153) X578.here hx (hb hby at_152) rfl rfl ?_
      refine s_icmpNo (pc' := 156) X578.here hx (hb hby at_153) (tlt hkn).2.1 rfl ?_
      refine s_iconst (pc' := 157) X578.here hx (v := (1 : Int32)) (hb hby at_156) rfl rfl ?_
      refine s_goto (pc' := 161) X578.here hx (hb hby at_157) (by decide) (by decide) ?_
      have hk580 : (1 : Int32) = (1 : Int32) := rfl
      refine s_icmpNo (pc' := 164) X578.here hx (hb hby at_161) (teq hk580).2 rfl ?_
      refine s_iload (pc' := 166) X578.here hx (hb hby at_164) rfl rfl ?_
      refine s_iload (pc' := 168) X578.here hx (hb hby at_166) rfl rfl ?_
      have hk581 : (1 : Int32) = (1 : Int32) := rfl
      refine s_icmpNo (pc' := 171) X578.here hx (hb hby at_168) (teq hk581).2 rfl ?_
      refine s_iconst (pc' := 172) X578.here hx (v := (1 : Int32)) (hb hby at_171) rfl rfl ?_
      refine s_goto (pc' := 176) X578.here hx (hb hby at_172) (by decide) (by decide) ?_
      obtain ⟨fs, hr, hrun, hended, hW, hsame⟩ := X578.leave (v := some (.int (1 : Int32))) (fun h => by rw [Bd.returns] at h; cases h)
      refine ⟨_, _, retN X578 hx (t := .boolean) Bd.returns (by simp) (hb hby at_176) hr, hrun, hended, _, _, rfl, ?_, ⟨_, rfl⟩, hW, hsame.mono (by decide) (by decide)⟩
      show own_rm0_Q Z p1 p2 p3 h0 n0 _ T578.heap _
      rw [eh578]
      exact ⟨rfl, N578⟩
    · refine s_callV (pc' := 139) (W := 0) X569 hx hZ  hown (hw _ (List.mem_of_getElem? (i := 13) rfl)) (hw _ (List.mem_of_getElem? (i := 14) rfl)) (hw _ (List.mem_of_getElem? (i := 4) rfl)) (hw _ (List.mem_of_getElem? (i := 17) rfl)) (hw _ (List.mem_of_getElem? (i := 16) rfl)) (hw _ (List.mem_of_getElem? (i := 15) rfl)) (by decide) eh569 f567 (own_rm3 l Z a0 hw [] ob ba ka1 n [(.int (0 : Int32)), (.int (0 : Int32)), (.int (0 : Int32)), (.int (0 : Int32)), (.int (0 : Int32)), (.int (0 : Int32)), (.int (0 : Int32)), (.int (0 : Int32)), (.int (0 : Int32)), (.int (0 : Int32)), (.int (0 : Int32)), (.int (0 : Int32)), (.int (0 : Int32)), (.int (0 : Int32)), (.int (0 : Int32))] (0 : Int32) T565.heap n0 Z568 Fb Fp f567 f566) (by rw [hml]; rfl) [] [] rfl (lenOf own_pd3 rfl) rfl (Nat.le_of_eq rfl) (by decide) (by decide) (by decide) (by decide) rfl (hb hby at_136) fun T582 v582 Lc582 X582 hQ582 => ?_
      obtain ⟨rfl, Nq582, eh582⟩ := hQ582
      have N582 := Fr.app N569 Nq582
      show Ends p.tables e below (T582.setTop (mkF m 139 #[.val (.int p1), .val (.int p2), .val (.int p3), .val (.int n), .val (.int (0 : Int32)), .val (.ref ba), .val (.ref ob), .val (.int (0 : Int32)), .unset, .unset] [(.int (if (0 : Int32) < n then 1 else 0))])) _
      have hr583 : (if (0 : Int32) < n then (1 : Int32) else 0) = 0 := by rw [pk]; simp only [hkn, if_true, if_false]
      rw [hr583]
      refine s_istore (pc' := 141) X582.here hx (l' := #[.val (.int p1), .val (.int p2), .val (.int p3), .val (.int n), .val (.int (0 : Int32)), .val (.ref ba), .val (.ref ob), .val (.int (0 : Int32)), .val (.int (0 : Int32)), .unset]) (hb hby at_139) rfl rfl ?_
      refine s_aload (pc' := 143) X582.here hx (hb hby at_141) rfl rfl rfl ?_
      refine s_callV (pc' := 146) (W := 0) X582 hx hZ  hown (hw _ (List.mem_of_getElem? (i := 13) rfl)) (hw _ (List.mem_of_getElem? (i := 14) rfl)) (hw _ (List.mem_of_getElem? (i := 4) rfl)) (hw _ (List.mem_of_getElem? (i := 17) rfl)) (hw _ (List.mem_of_getElem? (i := 16) rfl)) (hw _ (List.mem_of_getElem? (i := 15) rfl)) (by decide) eh582 f567 (own_rm3 l Z a0 hw [] ob ba ka1 n [(.int (0 : Int32)), (.int (0 : Int32)), (.int (0 : Int32)), (.int (0 : Int32)), (.int (0 : Int32)), (.int (0 : Int32)), (.int (0 : Int32)), (.int (0 : Int32)), (.int (0 : Int32)), (.int (0 : Int32)), (.int (0 : Int32)), (.int (0 : Int32)), (.int (0 : Int32)), (.int (0 : Int32)), (.int (0 : Int32))] (0 : Int32) T565.heap n0 Z568 Fb Fp f567 f566) (by rw [hml]; rfl) [] [] rfl (lenOf own_pd3 rfl) rfl (Nat.le_of_eq rfl) (by decide) (by decide) (by decide) (by decide) rfl (hb hby at_143) fun T584 v584 Lc584 X584 hQ584 => ?_
      obtain ⟨rfl, Nq584, eh584⟩ := hQ584
      have N584 := Fr.app N582 Nq584
      show Ends p.tables e below (T584.setTop (mkF m 146 #[.val (.int p1), .val (.int p2), .val (.int p3), .val (.int n), .val (.int (0 : Int32)), .val (.ref ba), .val (.ref ob), .val (.int (0 : Int32)), .val (.int (0 : Int32)), .unset] [(.int (if (0 : Int32) < n then 1 else 0))])) _
      have hr585 : (if (0 : Int32) < n then (1 : Int32) else 0) = 0 := by rw [pk]; simp only [hkn, if_true, if_false]
      rw [hr585]
      refine s_istore (pc' := 148) X584.here hx (l' := #[.val (.int p1), .val (.int p2), .val (.int p3), .val (.int n), .val (.int (0 : Int32)), .val (.ref ba), .val (.ref ob), .val (.int (0 : Int32)), .val (.int (0 : Int32)), .val (.int (0 : Int32))]) (hb hby at_146) rfl rfl ?_
      refine s_iload (pc' := 150) X584.here hx (hb hby at_148) rfl rfl ?_
      refine s_iload (pc' := 152) X584.here hx (hb hby at_150) rfl rfl ?_
      refine s_iloadN (pc' := 153) X584.here hx (hb hby at_152) rfl rfl ?_
      refine s_icmpYes (pc' := 160) X584.here hx (hb hby at_153) (flt hkn).2.1 (by decide) (by decide) ?_
      refine s_iconst (pc' := 161) X584.here hx (v := (0 : Int32)) (hb hby at_160) rfl rfl ?_
      have hk586 : (0 : Int32) = (0 : Int32) := rfl
      refine s_icmpNo (pc' := 164) X584.here hx (hb hby at_161) (teq hk586).2 rfl ?_
      refine s_iload (pc' := 166) X584.here hx (hb hby at_164) rfl rfl ?_
      refine s_iload (pc' := 168) X584.here hx (hb hby at_166) rfl rfl ?_
      have hk587 : (0 : Int32) = (0 : Int32) := rfl
      refine s_icmpNo (pc' := 171) X584.here hx (hb hby at_168) (teq hk587).2 rfl ?_
      refine s_iconst (pc' := 172) X584.here hx (v := (1 : Int32)) (hb hby at_171) rfl rfl ?_
      refine s_goto (pc' := 176) X584.here hx (hb hby at_172) (by decide) (by decide) ?_
      obtain ⟨fs, hr, hrun, hended, hW, hsame⟩ := X584.leave (v := some (.int (1 : Int32))) (fun h => by rw [Bd.returns] at h; cases h)
      refine ⟨_, _, retN X584 hx (t := .boolean) Bd.returns (by simp) (hb hby at_176) hr, hrun, hended, _, _, rfl, ?_, ⟨_, rfl⟩, hW, hsame.mono (by decide) (by decide)⟩
      show own_rm0_Q Z p1 p2 p3 h0 n0 _ T584.heap _
      rw [eh584]
      exact ⟨rfl, N584⟩
set_option maxRecDepth 65536 in
set_option maxHeartbeats 40000000 in
theorem comes_1 {Post : Tables → Env → Array Value → State → Outcome → State → Prop} (hpost : ∀ tb e args s v u, (limb_1_1.after args s (.returned v) u = true ∧ limb_1_2.after args s (.returned v) u = true ∧ True) → FrameEnd s (.returned v) u (Jvm.fieldLocs frame_1_writes args s ++ Jvm.arrayLocs frame_1_arrays args s ++ Jvm.staticLocs frame_1_statics s) 16 128 → Post tb e args s (.returned v) u) :
    ArmFor flags0 classFile x code maxLocals ret World_1 tables_1 room_1 Calls_1 rest_1 Pre_1 Post := by
  intro l hfl _ _ p e ha hc hk s m args below hf hA hF happ hP
  obtain ⟨hcalls, hrest, hpre⟩ := hP
  obtain ⟨-, -, -, hnamed, -, -, -, hat⟩ := (Spec.applies_iff hf).mp happ
  obtain ⟨hg, hn⟩ := and_e (Cond.before_iff.mp (show (Jvm.Cond.and given_1 narrow_1).before args s = true from hpre))
  obtain ⟨gg2, gg3⟩ := and_e hg
  obtain ⟨gg4, gg5⟩ := and_e gg3
  obtain ⟨gg6, gg7⟩ := and_e gg5
  obtain ⟨w0, w1, w2, rfl⟩ : ∃ w0 w1 w2 : Value, args = #[w0, w1, w2] := by
    have hs : args.size = 3 := by simpa [Cond.value, given_1] using gg2
    obtain ⟨L⟩ := args
    match L, hs with
    | [w0, w1, w2], _ => exact ⟨w0, w1, w2, rfl⟩
  have hw := fun d (hd : d ∈ tables_1) => atoms_spec (ws := Jvm.Cond.code x code maxLocals ret :: tables_1) hat d (List.mem_cons_of_mem _ hd)
  have hfit : Fit s := fun {y c} hc i hi => by
    obtain ⟨ha, rfl⟩ := Array.getElem?_eq_some_iff.mp hc
    have q := List.all_eq_true.mp ((Array.all_eq_true_iff_forall_mem.mp hF) _ (Array.getElem_mem ha)) i (List.mem_range.mpr hi)
    simpa [Array.getElem?_eq_getElem hi] using q
  obtain ⟨i0, ei0⟩ := is_v gg4
  obtain rfl : w0 = (.int i0) := Option.some.inj ei0
  obtain ⟨i1, ei1⟩ := is_v gg6
  obtain rfl : w1 = (.int i1) := Option.some.inj ei1
  obtain ⟨i2, ei2⟩ := is_v gg7
  obtain rfl : w2 = (.int i2) := Option.some.inj ei2
  obtain ⟨n, o, h1, h2, h3, _, L, rfl, ⟨rfl, N⟩, hq⟩ := own_rm0 l s _ hw tables_1 i0 i1 i2 s.heap s.heap.size (Nat.le_refl _) p e ha hc hk s m _ below hf ((Spec.applies_iff_loose hf).mp happ).1 ⟨rfl, State.Warmed39.refl s, rfl⟩ trivial
  refine ⟨n, _, h1, h2, h3, hpost _ _ _ _ _ _ ⟨Cond.after_iff.mpr rfl, Cond.after_iff.mpr (eq_i res_at (Term.int_eval (1)) rfl), trivial⟩ ⟨hq.1, hq.2.1, (hq.2.2.sift fun y hy => Or.inr (N y hy)).mono (by decide) (by decide)⟩⟩
theorem main_1_1 : Claimed_1_1 := comes_1 fun _ _ _ _ _ _ h hF => ⟨h.1, hF⟩
theorem main_1_2 : Claimed_1_2 := comes_1 fun _ _ _ _ _ _ h hF => ⟨h.2.1, hF⟩
end Jvm.Pilot.@@N@@
namespace Jvm.Pilot.@@N@@
open Jvm Jvm.ClassFile Sem Op Lib Jvm.Free Jvm.Stand Jvm.Pilot.@@N@@.Jvm.D
/-! MADE BY PROGRAM (witnessworld.py) out of the Statement's table words and the real class files: 9 classes; the members and pool entries that the words name. The judged class is class 1, her method 1. -/
namespace start1
open Jvm.ClassFile
def u (s : String) : CpInfo := .utf8 (stringToUtf16 s)
/-- a pool by its gaps: so many unusable entries, then the entry; so many at the end -/
def gap : Nat → List CpInfo → List CpInfo
  | 0, r => r
  | n + 1, r => .unusable :: gap n r
def poolList (es : List (Nat × CpInfo)) (last : Nat) : List CpInfo := es.foldr (fun e r => gap e.1 (e.2 :: r)) (gap last [])
def pool (es : List (Nat × CpInfo)) (last : Nat) : Array CpInfo := ⟨poolList es last⟩
def fileOf (pool : Array CpInfo) (this : Nat) (attrs : Array Attribute := #[]) (ms : Array MethodInfo := #[]) (fl : Nat := 33) (sup : Nat := 0) (ifs : Array Nat := #[]) (fds : Array FieldInfo := #[]) : ClassFile where
  minorVersion := 0
  majorVersion := 65
  constantPool := pool
  accessFlags := fl
  thisClass := this
  superClass := sup
  interfaces := ifs
  fields := fds
  methods := ms
  attributes := attrs
def plain (name : String) (sup : Option ClassId) : Class where
  name := name
  kind := .ordinary
  loader := none
  accessFlags := 33
  super := sup
  interfaces := #[]
  cf := none
  fields := #[]
  methods := #[]
  instanceTypes := #[]
  staticTypes := #[]
  resolved := #[]
  callSites := []
  init := .initialized
  statics := none
  mirror := none

def pool0 : Array CpInfo := pool [(5, u "<init>"), (0, u "()V"), (1, .class_ 10), (1, u "java/lang/Object")] 113

def k0c0 : Code := { maxStack := 0, maxLocals := 1, code := object_method_1_code, exceptionTable := #[], attributes := #[] }
def k0m0 : Method := { name := "<init>", desc := "()V", sig := { parameters := [], returnType := none }, accessFlags := 1, code := some k0c0 }
/-- java/lang/Object -/
def k0 : Class := { plain "java/lang/Object" none with
  accessFlags := 33
  interfaces := #[]
  cf := some (fileOf pool0 8 #[] #[{ accessFlags := 1, nameIndex := 5, descriptorIndex := 6, attributes := #[] }] 33 0 #[] #[])
  fields := #[]
  methods := #[k0m0]
  instanceTypes := #[]
  staticTypes := #[]
  resolved := Array.replicate 124 none
  statics := none }

def pool1 : Array CpInfo := pool [(2, .class_ 4), (1, u "java/lang/Object"), (0, u "<init>"), (0, u "()V"), (0, .integer 2147483647), (0, .class_ 9), (0, u "com/example/prudent_till/prudenttill/store/StoredFields$Reader"), (0, .methodref 8 11), (0, .nameAndType 5 12), (0, u "([B)V"), (0, .methodref 8 14), (0, .nameAndType 15 16), (0, u "hasRemaining"), (0, u "()Z"), (0, .methodref 8 18), (0, .nameAndType 19 20), (0, u "getLong"), (0, u "()J"), (0, .methodref 8 22), (0, .nameAndType 23 24), (0, u "getInt"), (0, u "()I"), (0, .methodref 8 26), (0, .nameAndType 27 28), (0, u "getByte"), (0, u "()B"), (0, .class_ 30), (0, u "com/example/prudent_till/prudenttill/store/ReaderHasRemainingPinLaw"), (2, u "law"), (0, u "(III)Z")] 12

def k1m0 : Method := { name := "<init>", desc := "()V", sig := { parameters := [], returnType := none }, accessFlags := 1, code := none }
def k1c1 : Code := { maxStack := 4, maxLocals := 10, code := code, exceptionTable := #[], attributes := #[] }
def k1m1 : Method := { name := "law", desc := "(III)Z", sig := { parameters := [.int, .int, .int], returnType := some .boolean }, accessFlags := 9, code := some k1c1 }
/-- com/example/prudent_till/prudenttill/store/ReaderHasRemainingPinLaw -/
def k1 : Class := { plain "com/example/prudent_till/prudenttill/store/ReaderHasRemainingPinLaw" (some 0) with
  accessFlags := 49
  interfaces := #[]
  cf := some (fileOf pool1 29 #[] #[{ accessFlags := 1, nameIndex := 5, descriptorIndex := 6, attributes := #[] }, { accessFlags := 9, nameIndex := 33, descriptorIndex := 34, attributes := #[] }] 49 2 #[] #[])
  fields := #[]
  methods := #[k1m0, k1m1]
  instanceTypes := #[]
  staticTypes := #[]
  resolved := Array.replicate 47 none
  statics := none }

def pool2 : Array CpInfo := pool [(1, .class_ 2), (0, u "com/example/prudent_till/prudenttill/store/StoredFields"), (0, .methodref 4 5), (0, .class_ 6), (0, .nameAndType 7 8), (0, u "java/lang/Object"), (0, u "<init>"), (0, u "()V"), (0, .fieldref 10 11), (0, .class_ 12), (0, .nameAndType 13 14), (0, u "com/example/prudent_till/prudenttill/store/StoredFields$Reader"), (0, u "bytes"), (0, u "[B"), (0, .methodref 10 16), (0, .nameAndType 17 18), (0, u "take"), (0, u "(I)V"), (0, .fieldref 10 20), (0, .nameAndType 21 22), (0, u "position"), (0, u "I"), (2, .methodref 10 26), (0, .nameAndType 27 28), (0, u "getNumber"), (0, u "(I)J"), (4, u "getInt"), (0, u "()I"), (23, u "getLong"), (0, u "()J"), (37, u "hasRemaining"), (0, u "()Z"), (8, u "([B)V"), (2, u "getByte"), (0, u "()B")] 31

def k2c0 : Code := { maxStack := 2, maxLocals := 2, code := prog_89_method_1_code, exceptionTable := #[], attributes := #[] }
def k2m0 : Method := { name := "<init>", desc := "([B)V", sig := { parameters := [(.array .byte)], returnType := none }, accessFlags := 0, code := some k2c0 }
def k2c1 : Code := { maxStack := 3, maxLocals := 1, code := prog_89_method_2_code, exceptionTable := #[], attributes := #[] }
def k2m1 : Method := { name := "getByte", desc := "()B", sig := { parameters := [], returnType := some .byte }, accessFlags := 0, code := some k2c1 }
def k2c2 : Code := { maxStack := 2, maxLocals := 1, code := prog_89_method_3_code, exceptionTable := #[], attributes := #[] }
def k2m2 : Method := { name := "getInt", desc := "()I", sig := { parameters := [], returnType := some .int }, accessFlags := 0, code := some k2c2 }
def k2c3 : Code := { maxStack := 2, maxLocals := 1, code := prog_89_method_4_code, exceptionTable := #[], attributes := #[] }
def k2m3 : Method := { name := "getLong", desc := "()J", sig := { parameters := [], returnType := some .long }, accessFlags := 0, code := some k2c3 }
def k2c4 : Code := { maxStack := 2, maxLocals := 1, code := prog_89_method_10_code, exceptionTable := #[], attributes := #[] }
def k2m4 : Method := { name := "hasRemaining", desc := "()Z", sig := { parameters := [], returnType := some .boolean }, accessFlags := 0, code := some k2c4 }
def k2c5 : Code := { maxStack := 4, maxLocals := 5, code := prog_89_method_12_code, exceptionTable := #[], attributes := #[] }
def k2m5 : Method := { name := "getNumber", desc := "(I)J", sig := { parameters := [.int], returnType := some .long }, accessFlags := 2, code := some k2c5 }
def k2c6 : Code := { maxStack := 3, maxLocals := 2, code := prog_89_method_14_code, exceptionTable := #[], attributes := #[] }
def k2m6 : Method := { name := "take", desc := "(I)V", sig := { parameters := [.int], returnType := none }, accessFlags := 2, code := some k2c6 }
/-- com/example/prudent_till/prudenttill/store/StoredFields$Reader -/
def k2 : Class := { plain "com/example/prudent_till/prudenttill/store/StoredFields$Reader" (some 0) with
  accessFlags := 48
  interfaces := #[]
  cf := some (fileOf pool2 10 #[.nestHost 1] #[{ accessFlags := 0, nameIndex := 7, descriptorIndex := 107, attributes := #[] }, { accessFlags := 0, nameIndex := 110, descriptorIndex := 111, attributes := #[] }, { accessFlags := 0, nameIndex := 33, descriptorIndex := 34, attributes := #[] }, { accessFlags := 0, nameIndex := 58, descriptorIndex := 59, attributes := #[] }, { accessFlags := 0, nameIndex := 97, descriptorIndex := 98, attributes := #[] }, { accessFlags := 2, nameIndex := 27, descriptorIndex := 28, attributes := #[] }, { accessFlags := 2, nameIndex := 17, descriptorIndex := 18, attributes := #[] }] 48 4 #[] #[{ accessFlags := 18, nameIndex := 13, descriptorIndex := 14, attributes := #[] }, { accessFlags := 2, nameIndex := 21, descriptorIndex := 22, attributes := #[] }])
  fields := #[{ name := "bytes", type := (.array .byte), accessFlags := 18, slot := 0, constantValue := 0 }, { name := "position", type := .int, accessFlags := 2, slot := 1, constantValue := 0 }]
  methods := #[k2m0, k2m1, k2m2, k2m3, k2m4, k2m5, k2m6]
  instanceTypes := #[(.array .byte), .int]
  staticTypes := #[]
  resolved := Array.replicate 143 none
  statics := none }

def pool3 : Array CpInfo := pool [(1, u "java/lang/Cloneable"), (0, .class_ 1), (0, u "java/lang/Object"), (0, .class_ 3)] 3

/-- java/lang/Cloneable -/
def k3 : Class := { plain "java/lang/Cloneable" (some 0) with
  accessFlags := 1537
  interfaces := #[]
  cf := some (fileOf pool3 2 #[] #[] 1537 4 #[] #[])
  fields := #[]
  methods := #[]
  instanceTypes := #[]
  staticTypes := #[]
  resolved := Array.replicate 8 none
  statics := none }

def pool4 : Array CpInfo := pool [(1, u "java/io/Serializable"), (0, .class_ 1), (0, u "java/lang/Object"), (0, .class_ 3)] 3

/-- java/io/Serializable -/
def k4 : Class := { plain "java/io/Serializable" (some 0) with
  accessFlags := 1537
  interfaces := #[]
  cf := some (fileOf pool4 2 #[] #[] 1537 4 #[] #[])
  fields := #[]
  methods := #[]
  instanceTypes := #[]
  staticTypes := #[]
  resolved := Array.replicate 8 none
  statics := none }

/-- the primitive byte -/
def k5 : Class := { plain "byte" none with kind := .primitive 'B', accessFlags := 0x411 }
/-- [B -/
def k6 : Class := { plain "[B" (some 0) with kind := .array 5 .byte, interfaces := #[3, 4], accessFlags := 1041 }

/-- the primitive int -/
def k7 : Class := { plain "int" none with kind := .primitive 'I', accessFlags := 0x411 }
/-- [I -/
def k8 : Class := { plain "[I" (some 0) with kind := .array 7 .int, interfaces := #[3, 4], accessFlags := 1041 }

def heap : Heap := #[]
def classes : Array Class := #[k0, k1, k2, k3, k4, k5, k6, k7, k8]
def interned : List (Array UInt16 × Addr) := []
def slotsUsed : Nat := 0
def theMethod : MethodId := ⟨1, 1⟩
def args0 : Array Value := #[.int 5, .int 7, .int 3]
def aboutOver (below : List Frame) : State where
  vm := { classes := classes, interned := interned.toArray }
  heap := heap
  slotsUsed := slotsUsed
  threads := #[{ frames := .invoking theMethod args0 :: below }]
def below0 : List Frame := [.native { method := ⟨0, 0⟩, args := #[] }]
def about1 : State := aboutOver below0
def p0 : Program := .bare "" "" ""
def e0 : Env := launch0.env 0 0 0
theorem w_frames : about1.frames = Frame.invoking theMethod args0 :: below0 := rfl
set_option maxRecDepth 65536 in
theorem w_args : argsFit about1.vm theMethod args0 = true := by decide +kernel
set_option maxRecDepth 65536 in
theorem w_heap : heapFits about1 = true := by decide +kernel
set_option maxRecDepth 65536 in
theorem w_runnable : about1.curStatus? = some .runnable := by decide +kernel
set_option maxRecDepth 65536 in
theorem w_alone : about1.alone = true := by decide +kernel
set_option maxRecDepth 65536 in
theorem w_named : about1.methodNamed? x = some theMethod := by decide +kernel
set_option maxRecDepth 65536 in
theorem w_hears : about1.hears theMethod below0 = true := by decide +kernel
set_option maxRecDepth 65536 in
theorem w_ripe : about1.ripe theMethod args0 below0 = true := by decide +kernel
theorem w_running : about1.status = .running := rfl
set_option maxRecDepth 65536 in
theorem w_room : about1.hasRoom e0.platform room_1 = true :=
  launch0.hasRoom_least _ room_1 (by decide +kernel) (by decide +kernel) (by decide +kernel) (by decide +kernel) (by decide +kernel) (by decide +kernel)
theorem allAtoms_all (ts : List Jvm.Cond) (a : Array Jvm.Value) (st : Jvm.State) : (allAtoms ts).before a st = ts.all (fun c => c.before a st) := by
  induction ts with
  | nil => rfl
  | cons c t ih =>
    show (Jvm.Cond.and c (allAtoms t)).before a st = _
    rw [Jvm.Cond.before_and, ih, List.all_cons]
def words1 : List Jvm.Cond := Jvm.Cond.code x code maxLocals ret :: tables_1
/-- a 'code' word, met by the world's own term for the bytes: nothing is compared byte by byte -/
theorem code_word {y : MethodName} {bytes : ByteArray} {mx : Nat} {rt : Option FieldType} {a : Array Value} {s : State} {m : MethodId} {meth : Method} {c : Code} (h1 : s.methodNamed? y = some m) (h2 : s.vm.method? m = some meth) (h3 : meth.code = some c) (h4 : c.code = bytes)
    (h5 : (c.maxLocals == mx && c.exceptionTable.isEmpty && decide (c.maxStack ≤ mostOperands) && decide (meth.sig.returnType = rt) && !meth.locks && decide (parseMethodDescriptor y.desc = some meth.sig)) = true) : (Jvm.Cond.code y bytes mx rt).before a s = true := by
  simp only [Bool.and_eq_true, beq_iff_eq, Bool.not_eq_true', decide_eq_true_eq] at h5
  obtain ⟨⟨⟨⟨⟨g1, g2⟩, g3⟩, g4⟩, g5⟩, g6⟩ := h5
  simp [Cond.before, Cond.holds, Cond.value, h1, h2, h3, h4, g1, g2, g3, g4, g5, g6]
def isCode : Jvm.Cond → Bool
  | .code _ _ _ _ => true
  | _ => false
theorem all_split {L : List Jvm.Cond} {P : Jvm.Cond → Bool} (h1 : L.all (fun c => isCode c || P c) = true) (h2 : ∀ c ∈ L.filter isCode, P c = true) : L.all P = true := by
  refine List.all_eq_true.mpr fun c hc => ?_
  have h := List.all_eq_true.mp h1 c hc
  rcases Bool.eq_false_or_eq_true (isCode c) with hi | hi
  · exact h2 c (List.mem_filter.mpr ⟨hc, hi⟩)
  · simpa [hi] using h
set_option maxRecDepth 65536 in
theorem w_c0 : (Jvm.Cond.code x code maxLocals ret).before args0 about1 = true := code_word (m := ⟨1, 1⟩) (meth := k1m1) (c := k1c1) (by decide +kernel) rfl rfl rfl (by decide +kernel)
set_option maxRecDepth 65536 in
theorem w_c1 : (Jvm.Cond.code ({ cls := "com/example/prudent_till/prudenttill/store/StoredFields$Reader", name := "<init>", desc := "([B)V" } : Jvm.MethodName) prog_89_method_1_code (2 : Nat) (Option.none : Option Jvm.ClassFile.FieldType)).before args0 about1 = true := code_word (m := ⟨2, 0⟩) (meth := k2m0) (c := k2c0) (by decide +kernel) rfl rfl rfl (by decide +kernel)
set_option maxRecDepth 65536 in
theorem w_c2 : (Jvm.Cond.code ({ cls := "java/lang/Object", name := "<init>", desc := "()V" } : Jvm.MethodName) object_method_1_code (1 : Nat) (Option.none : Option Jvm.ClassFile.FieldType)).before args0 about1 = true := code_word (m := ⟨0, 0⟩) (meth := k0m0) (c := k0c0) (by decide +kernel) rfl rfl rfl (by decide +kernel)
set_option maxRecDepth 65536 in
theorem w_c3 : (Jvm.Cond.code ({ cls := "com/example/prudent_till/prudenttill/store/StoredFields$Reader", name := "hasRemaining", desc := "()Z" } : Jvm.MethodName) prog_89_method_10_code (1 : Nat) (Option.some Jvm.ClassFile.FieldType.boolean)).before args0 about1 = true := code_word (m := ⟨2, 4⟩) (meth := k2m4) (c := k2c4) (by decide +kernel) rfl rfl rfl (by decide +kernel)
set_option maxRecDepth 65536 in
theorem w_c4 : (Jvm.Cond.code ({ cls := "com/example/prudent_till/prudenttill/store/StoredFields$Reader", name := "getInt", desc := "()I" } : Jvm.MethodName) prog_89_method_3_code (1 : Nat) (Option.some Jvm.ClassFile.FieldType.int)).before args0 about1 = true := code_word (m := ⟨2, 2⟩) (meth := k2m2) (c := k2c2) (by decide +kernel) rfl rfl rfl (by decide +kernel)
set_option maxRecDepth 65536 in
theorem w_c5 : (Jvm.Cond.code ({ cls := "com/example/prudent_till/prudenttill/store/StoredFields$Reader", name := "getNumber", desc := "(I)J" } : Jvm.MethodName) prog_89_method_12_code (5 : Nat) (Option.some Jvm.ClassFile.FieldType.long)).before args0 about1 = true := code_word (m := ⟨2, 5⟩) (meth := k2m5) (c := k2c5) (by decide +kernel) rfl rfl rfl (by decide +kernel)
set_option maxRecDepth 65536 in
theorem w_c6 : (Jvm.Cond.code ({ cls := "com/example/prudent_till/prudenttill/store/StoredFields$Reader", name := "take", desc := "(I)V" } : Jvm.MethodName) prog_89_method_14_code (2 : Nat) (Option.none : Option Jvm.ClassFile.FieldType)).before args0 about1 = true := code_word (m := ⟨2, 6⟩) (meth := k2m6) (c := k2c6) (by decide +kernel) rfl rfl rfl (by decide +kernel)
set_option maxRecDepth 65536 in
theorem w_c7 : (Jvm.Cond.code ({ cls := "com/example/prudent_till/prudenttill/store/StoredFields$Reader", name := "getByte", desc := "()B" } : Jvm.MethodName) prog_89_method_2_code (1 : Nat) (Option.some Jvm.ClassFile.FieldType.byte)).before args0 about1 = true := code_word (m := ⟨2, 1⟩) (meth := k2m1) (c := k2c1) (by decide +kernel) rfl rfl rfl (by decide +kernel)
set_option maxRecDepth 65536 in
theorem w_c8 : (Jvm.Cond.code ({ cls := "com/example/prudent_till/prudenttill/store/StoredFields$Reader", name := "getLong", desc := "()J" } : Jvm.MethodName) prog_89_method_4_code (1 : Nat) (Option.some Jvm.ClassFile.FieldType.long)).before args0 about1 = true := code_word (m := ⟨2, 3⟩) (meth := k2m3) (c := k2c3) (by decide +kernel) rfl rfl rfl (by decide +kernel)
def codes1 : List Jvm.Cond := [Jvm.Cond.code x code maxLocals ret, Jvm.Cond.code ({ cls := "com/example/prudent_till/prudenttill/store/StoredFields$Reader", name := "<init>", desc := "([B)V" } : Jvm.MethodName) prog_89_method_1_code (2 : Nat) (Option.none : Option Jvm.ClassFile.FieldType), Jvm.Cond.code ({ cls := "java/lang/Object", name := "<init>", desc := "()V" } : Jvm.MethodName) object_method_1_code (1 : Nat) (Option.none : Option Jvm.ClassFile.FieldType), Jvm.Cond.code ({ cls := "com/example/prudent_till/prudenttill/store/StoredFields$Reader", name := "hasRemaining", desc := "()Z" } : Jvm.MethodName) prog_89_method_10_code (1 : Nat) (Option.some Jvm.ClassFile.FieldType.boolean), Jvm.Cond.code ({ cls := "com/example/prudent_till/prudenttill/store/StoredFields$Reader", name := "getInt", desc := "()I" } : Jvm.MethodName) prog_89_method_3_code (1 : Nat) (Option.some Jvm.ClassFile.FieldType.int), Jvm.Cond.code ({ cls := "com/example/prudent_till/prudenttill/store/StoredFields$Reader", name := "getNumber", desc := "(I)J" } : Jvm.MethodName) prog_89_method_12_code (5 : Nat) (Option.some Jvm.ClassFile.FieldType.long), Jvm.Cond.code ({ cls := "com/example/prudent_till/prudenttill/store/StoredFields$Reader", name := "take", desc := "(I)V" } : Jvm.MethodName) prog_89_method_14_code (2 : Nat) (Option.none : Option Jvm.ClassFile.FieldType), Jvm.Cond.code ({ cls := "com/example/prudent_till/prudenttill/store/StoredFields$Reader", name := "getByte", desc := "()B" } : Jvm.MethodName) prog_89_method_2_code (1 : Nat) (Option.some Jvm.ClassFile.FieldType.byte), Jvm.Cond.code ({ cls := "com/example/prudent_till/prudenttill/store/StoredFields$Reader", name := "getLong", desc := "()J" } : Jvm.MethodName) prog_89_method_4_code (1 : Nat) (Option.some Jvm.ClassFile.FieldType.long)]
set_option maxRecDepth 65536 in
theorem codes_eq : words1.filter isCode = codes1 := rfl
theorem w_codes : ∀ c ∈ words1.filter isCode, c.before args0 about1 = true := by
  rw [codes_eq]
  intro c hc
  simp only [codes1, List.mem_cons, List.not_mem_nil, or_false] at hc
  rcases hc with rfl | rfl | rfl | rfl | rfl | rfl | rfl | rfl | rfl
  · exact w_c0
  · exact w_c1
  · exact w_c2
  · exact w_c3
  · exact w_c4
  · exact w_c5
  · exact w_c6
  · exact w_c7
  · exact w_c8
set_option maxRecDepth 65536 in
theorem w_t1 : (words1.take 24).all (fun c => isCode c || c.before args0 about1) = true := by decide +kernel
set_option maxRecDepth 65536 in
theorem w_t2 : (words1.drop 24).all (fun c => isCode c || c.before args0 about1) = true := by decide +kernel
theorem w_tables : (allAtoms (Jvm.Cond.code x code maxLocals ret :: tables_1)).before args0 about1 = true := by
  rw [allAtoms_all]
  show words1.all (fun c => c.before args0 about1) = true
  refine all_split ?_ w_codes
  rw [← List.take_append_drop 24 words1, List.all_append, w_t1, w_t2]
  rfl
set_option maxRecDepth 65536 in
theorem w_case : (Jvm.Cond.and given_1 narrow_1).before args0 about1 = true := by decide +kernel
theorem w_applies : (headSpec (Jvm.Cond.code x code maxLocals ret :: tables_1) room_1).applies x e0.platform about1 = true :=
  (Spec.applies_iff w_frames).mpr ⟨w_running, w_runnable, w_alone, w_named, w_hears, w_ripe, w_room, w_tables⟩
theorem atStart : AtStart classFile x code maxLocals ret World_1 tables_1 room_1 Calls_1 rest_1 Pre_1 launch0 p0 e0 about1 theMethod args0 below0 :=
  ⟨lists_1, trivial, launch0.admits_env _ _ _, launch0.least_env, fairChoices_fair.cas, fairChoices_fair.clock, w_frames, w_args, w_heap, w_applies, trivial, trivial, w_case⟩
end start1
theorem witness_1 : WitnessClaimed_1 := ⟨start1.p0, start1.e0, start1.about1, start1.theMethod, start1.args0, start1.below0, start1.atStart⟩
end Jvm.Pilot.@@N@@
