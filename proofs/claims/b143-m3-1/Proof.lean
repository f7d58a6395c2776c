import JvmDerived
import JvmDerived.Pilot.@@N@@Statement
import JvmDerived.Pilot.@@N@@Code
set_option linter.unusedVariables false
set_option linter.unusedSimpArgs false

namespace Jvm.Pilot.@@N@@
open Jvm Jvm.ClassFile Sem Op Lib Jvm.Free Jvm.Stand Jvm.LawKit Jvm.RoadKit Bundle Jvm.Pilot.@@N@@.Jvm.D
/-- from S the run comes to an end of which P holds -/
abbrev Ends (tb : Tables) (e : Env) (below : List Frame) (S : State) (P : State → Outcome → Prop) : Prop := ∃ t o, Steps tb e below S t ∧ P t o
theorem own_via {tb : Tables} {e : Env} {below : List Frame} {S S' : State} {P : State → Outcome → Prop} (h : ∀ t, Steps tb e below S' t → Steps tb e below S t) (k : Ends tb e below S' P) : Ends tb e below S P := by
  obtain ⟨t, o, a, b⟩ := k
  exact ⟨t, o, h t a, b⟩
theorem own_begin {tb : Tables} {e : Env} {below : List Frame} {T : State} {g g' : JFrame} {P : State → Outcome → Prop} (q : g = g') (k : Ends tb e below (T.setTop g') P) : ∃ t o, Steps tb e below (T.setTop g) t ∧ P t o := by
  subst q
  exact k
/-- several roads come to one place -/
theorem own_join {tb : Tables} {e : Env} {below : List Frame} {S0 : State} {P : State → Outcome → Prop} {α : Type} (S : α → State) (H : α → Prop) (k1 : (∀ w, H w → Ends tb e below (S w) P) → Ends tb e below S0 P) (k2 : ∀ w, H w → Ends tb e below (S w) P) : Ends tb e below S0 P := k1 k2
theorem own_rwm {s t : State} {o : Outcome} {L : List Loc} {k n k' n' : Nat} (h : ReturnedEndW s o t L k n) (h1 : k ≤ k') (h2 : n ≤ n') : ReturnedEndW s o t L k' n' := ⟨h.1, h.2.1, h.2.2.1, h.2.2.2.mono h1 h2⟩
theorem own_narR {v : Value} {C : String} (h : v.isRef = true) : narrow (.object C) v = v := by cases v <;> first | rfl | (simp [Value.isRef] at h)
theorem own_fitR {v : Value} {C : String} (h : v.isRef = true) : fits (.object C) v = true := by cases v <;> first | rfl | (simp [Value.isRef] at h)
theorem own_catR {v : Value} (h : v.isRef = true) : v.category = 1 := by cases v <;> first | rfl | (simp [Value.isRef] at h)
theorem own_selPriv {s : State} {args : Array Value} {y z : MethodName} (hz : z.cls = y.cls) (hsel : (Jvm.Cond.selects z.cls z z).before args s = true) (hpriv : s.PrivateAt y) (hinst : (Jvm.Cond.instanceMethod y).before args s = true) (hy : y.cls ≠ "java/lang/invoke/MethodHandle" ∧ y.cls ≠ "java/lang/invoke/VarHandle") : (Jvm.Cond.selects y.cls y y).before args s = true := by
  obtain ⟨c2, r2, m2, -, -, q3, -, kP, hkP, hkPi⟩ := Cond.selects_spec hsel
  exact selects_self_of_private (hz ▸ findClass_of_methodNamed q3) hkP hkPi hpriv hinst hy
section OwnSteps
variable {tb : Tables} [Ours tb] {e : Env} {below : List Frame} {T : State} {m : MethodId} {c : Code} {P : State → Outcome → Prop} {pc pc' : Nat} {ls l' : Array Slot} {st : List Value}
theorem s_iload (h : At T m c below) (hx : tb.exec = Jvm.exec) {k : Nat} {v : Int32} (hd : decode c.code pc = .ok (.iload k, 2)) (hl : ls[k]? = some (.val (.int v))) (hp : pc + 2 = pc') (hr : Ends tb e below (T.setTop (mkF m pc' ls (.int v :: st))) P) : Ends tb e below (T.setTop (mkF m pc ls st)) P := by
  subst hp
  exact own_via (fun t_ k_ => XS.iload h hx rfl hd hl k_) hr
theorem s_istore (h : At T m c below) (hx : tb.exec = Jvm.exec) {k : Nat} {v : Int32} (hd : decode c.code pc = .ok (.istore k, 2)) (hl : storeLocals ls k (.int v) = some l') (hp : pc + 2 = pc') (hr : Ends tb e below (T.setTop (mkF m pc' l' st)) P) : Ends tb e below (T.setTop (mkF m pc ls (.int v :: st))) P := by
  subst hp
  exact own_via (fun t_ k_ => XS.istore h hx rfl hd rfl hl k_) hr
theorem s_iloadN (h : At T m c below) (hx : tb.exec = Jvm.exec) {k : Fin 4} {v : Int32} (hd : decode c.code pc = .ok (.iload_n k, 1)) (hl : ls[k.val]? = some (.val (.int v))) (hp : pc + 1 = pc') (hr : Ends tb e below (T.setTop (mkF m pc' ls (.int v :: st))) P) : Ends tb e below (T.setTop (mkF m pc ls st)) P := by
  subst hp
  exact own_via (fun t_ k_ => XS.iloadN h hx rfl hd hl k_) hr
theorem s_istoreN (h : At T m c below) (hx : tb.exec = Jvm.exec) {k : Fin 4} {v : Int32} (hd : decode c.code pc = .ok (.istore_n k, 1)) (hl : storeLocals ls k.val (.int v) = some l') (hp : pc + 1 = pc') (hr : Ends tb e below (T.setTop (mkF m pc' l' st)) P) : Ends tb e below (T.setTop (mkF m pc ls (.int v :: st))) P := by
  subst hp
  exact own_via (fun t_ k_ => XS.istoreN h hx rfl hd rfl hl k_) hr
theorem s_lload (h : At T m c below) (hx : tb.exec = Jvm.exec) {k : Nat} {v : Int64} (hd : decode c.code pc = .ok (.lload k, 2)) (hl : ls[k]? = some (.val (.long v))) (hp : pc + 2 = pc') (hr : Ends tb e below (T.setTop (mkF m pc' ls (.long v :: st))) P) : Ends tb e below (T.setTop (mkF m pc ls st)) P := by
  subst hp
  exact own_via (fun t_ k_ => XS.lload h hx rfl hd hl k_) hr
theorem s_lstore (h : At T m c below) (hx : tb.exec = Jvm.exec) {k : Nat} {v : Int64} (hd : decode c.code pc = .ok (.lstore k, 2)) (hl : storeLocals ls k (.long v) = some l') (hp : pc + 2 = pc') (hr : Ends tb e below (T.setTop (mkF m pc' l' st)) P) : Ends tb e below (T.setTop (mkF m pc ls (.long v :: st))) P := by
  subst hp
  exact own_via (fun t_ k_ => XS.lstore h hx rfl hd rfl hl k_) hr
theorem s_lloadN (h : At T m c below) (hx : tb.exec = Jvm.exec) {k : Fin 4} {v : Int64} (hd : decode c.code pc = .ok (.lload_n k, 1)) (hl : ls[k.val]? = some (.val (.long v))) (hp : pc + 1 = pc') (hr : Ends tb e below (T.setTop (mkF m pc' ls (.long v :: st))) P) : Ends tb e below (T.setTop (mkF m pc ls st)) P := by
  subst hp
  exact own_via (fun t_ k_ => XS.lloadN h hx rfl hd hl k_) hr
theorem s_lstoreN (h : At T m c below) (hx : tb.exec = Jvm.exec) {k : Fin 4} {v : Int64} (hd : decode c.code pc = .ok (.lstore_n k, 1)) (hl : storeLocals ls k.val (.long v) = some l') (hp : pc + 1 = pc') (hr : Ends tb e below (T.setTop (mkF m pc' l' st)) P) : Ends tb e below (T.setTop (mkF m pc ls (.long v :: st))) P := by
  subst hp
  exact own_via (fun t_ k_ => XS.lstoreN h hx rfl hd rfl hl k_) hr
theorem s_dload (h : At T m c below) (hx : tb.exec = Jvm.exec) {k : Nat} {v : UInt64} (hd : decode c.code pc = .ok (.dload k, 2)) (hl : ls[k]? = some (.val (.double v))) (hp : pc + 2 = pc') (hr : Ends tb e below (T.setTop (mkF m pc' ls (.double v :: st))) P) : Ends tb e below (T.setTop (mkF m pc ls st)) P := by
  subst hp
  exact own_via (fun t_ k_ => XS.dload h hx rfl hd hl k_) hr
theorem s_dstore (h : At T m c below) (hx : tb.exec = Jvm.exec) {k : Nat} {v : UInt64} (hd : decode c.code pc = .ok (.dstore k, 2)) (hl : storeLocals ls k (.double v) = some l') (hp : pc + 2 = pc') (hr : Ends tb e below (T.setTop (mkF m pc' l' st)) P) : Ends tb e below (T.setTop (mkF m pc ls (.double v :: st))) P := by
  subst hp
  exact own_via (fun t_ k_ => XS.dstore h hx rfl hd rfl hl k_) hr
theorem s_dloadN (h : At T m c below) (hx : tb.exec = Jvm.exec) {k : Fin 4} {v : UInt64} (hd : decode c.code pc = .ok (.dload_n k, 1)) (hl : ls[k.val]? = some (.val (.double v))) (hp : pc + 1 = pc') (hr : Ends tb e below (T.setTop (mkF m pc' ls (.double v :: st))) P) : Ends tb e below (T.setTop (mkF m pc ls st)) P := by
  subst hp
  exact own_via (fun t_ k_ => XS.dloadN h hx rfl hd hl k_) hr
theorem s_dstoreN (h : At T m c below) (hx : tb.exec = Jvm.exec) {k : Fin 4} {v : UInt64} (hd : decode c.code pc = .ok (.dstore_n k, 1)) (hl : storeLocals ls k.val (.double v) = some l') (hp : pc + 1 = pc') (hr : Ends tb e below (T.setTop (mkF m pc' l' st)) P) : Ends tb e below (T.setTop (mkF m pc ls (.double v :: st))) P := by
  subst hp
  exact own_via (fun t_ k_ => XS.dstoreN h hx rfl hd rfl hl k_) hr
theorem s_aload (h : At T m c below) (hx : tb.exec = Jvm.exec) {k : Nat} {v : Value} (hd : decode c.code pc = .ok (.aload k, 2)) (hl : ls[k]? = some (.val v)) (hv : v.isRef = true) (hp : pc + 2 = pc') (hr : Ends tb e below (T.setTop (mkF m pc' ls (v :: st))) P) : Ends tb e below (T.setTop (mkF m pc ls st)) P := by
  subst hp
  exact own_via (fun t_ k_ => XS.aload h hx rfl hd hl hv k_) hr
theorem s_astore (h : At T m c below) (hx : tb.exec = Jvm.exec) {k : Nat} {v : Value} (hd : decode c.code pc = .ok (.astore k, 2)) (hv : v.isRef = true) (hl : storeLocals ls k v = some l') (hp : pc + 2 = pc') (hr : Ends tb e below (T.setTop (mkF m pc' l' st)) P) : Ends tb e below (T.setTop (mkF m pc ls (v :: st))) P := by
  subst hp
  exact own_via (fun t_ k_ => XS.astore h hx rfl hd rfl hv hl k_) hr
theorem s_aloadN (h : At T m c below) (hx : tb.exec = Jvm.exec) {k : Fin 4} {v : Value} (hd : decode c.code pc = .ok (.aload_n k, 1)) (hl : ls[k.val]? = some (.val v)) (hv : v.isRef = true) (hp : pc + 1 = pc') (hr : Ends tb e below (T.setTop (mkF m pc' ls (v :: st))) P) : Ends tb e below (T.setTop (mkF m pc ls st)) P := by
  subst hp
  exact own_via (fun t_ k_ => XS.aloadN h hx rfl hd hl hv k_) hr
theorem s_astoreN (h : At T m c below) (hx : tb.exec = Jvm.exec) {k : Fin 4} {v : Value} (hd : decode c.code pc = .ok (.astore_n k, 1)) (hv : v.isRef = true) (hl : storeLocals ls k.val v = some l') (hp : pc + 1 = pc') (hr : Ends tb e below (T.setTop (mkF m pc' l' st)) P) : Ends tb e below (T.setTop (mkF m pc ls (v :: st))) P := by
  subst hp
  exact own_via (fun t_ k_ => XS.astoreN h hx rfl hd rfl hv hl k_) hr
theorem s_iconst (h : At T m c below) (hx : tb.exec = Jvm.exec) {i : Int} {v : Int32} (hd : decode c.code pc = .ok (.iconst i, 1)) (hv : Int32.ofInt i = v) (hp : pc + 1 = pc') (hr : Ends tb e below (T.setTop (mkF m pc' ls (.int v :: st))) P) : Ends tb e below (T.setTop (mkF m pc ls st)) P := by
  subst hp hv
  exact own_via (fun t_ k_ => XS.iconst h hx rfl hd k_) hr
theorem s_bipush (h : At T m c below) (hx : tb.exec = Jvm.exec) {i : Int} {v : Int32} (hd : decode c.code pc = .ok (.bipush i, 2)) (hv : (Int8.ofInt i).toInt32 = v) (hp : pc + 2 = pc') (hr : Ends tb e below (T.setTop (mkF m pc' ls (.int v :: st))) P) : Ends tb e below (T.setTop (mkF m pc ls st)) P := by
  subst hp hv
  exact own_via (fun t_ k_ => XS.bipush h hx rfl hd k_) hr
theorem s_sipush (h : At T m c below) (hx : tb.exec = Jvm.exec) {i : Int} {v : Int32} (hd : decode c.code pc = .ok (.sipush i, 3)) (hv : (Int16.ofInt i).toInt32 = v) (hp : pc + 3 = pc') (hr : Ends tb e below (T.setTop (mkF m pc' ls (.int v :: st))) P) : Ends tb e below (T.setTop (mkF m pc ls st)) P := by
  subst hp hv
  exact own_via (fun t_ k_ => XS.sipush h hx rfl hd k_) hr
theorem s_lconst (h : At T m c below) (hx : tb.exec = Jvm.exec) {i : Fin 2} {v : Int64} (hd : decode c.code pc = .ok (.lconst i, 1)) (hv : Int64.ofNat i = v) (hp : pc + 1 = pc') (hr : Ends tb e below (T.setTop (mkF m pc' ls (.long v :: st))) P) : Ends tb e below (T.setTop (mkF m pc ls st)) P := by
  subst hp hv
  exact own_via (fun t_ k_ => XS.lconst h hx rfl hd k_) hr
theorem s_aconstNull (h : At T m c below) (hx : tb.exec = Jvm.exec)  (hd : decode c.code pc = .ok (.aconst_null, 1))  (hp : pc + 1 = pc') (hr : Ends tb e below (T.setTop (mkF m pc' ls (.null :: st))) P) : Ends tb e below (T.setTop (mkF m pc ls st)) P := by
  subst hp
  exact own_via (fun t_ k_ => XS.aconstNull h hx rfl hd k_) hr
theorem s_iadd (h : At T m c below) (hx : tb.exec = Jvm.exec) {x y : Int32} (hd : decode c.code pc = .ok (.iadd, 1))  (hp : pc + 1 = pc') (hr : Ends tb e below (T.setTop (mkF m pc' ls (.int (x + y) :: st))) P) : Ends tb e below (T.setTop (mkF m pc ls (.int y :: .int x :: st))) P := by
  subst hp
  exact own_via (fun t_ k_ => XS.iadd h hx rfl hd rfl k_) hr
theorem s_isub (h : At T m c below) (hx : tb.exec = Jvm.exec) {x y : Int32} (hd : decode c.code pc = .ok (.isub, 1))  (hp : pc + 1 = pc') (hr : Ends tb e below (T.setTop (mkF m pc' ls (.int (x - y) :: st))) P) : Ends tb e below (T.setTop (mkF m pc ls (.int y :: .int x :: st))) P := by
  subst hp
  exact own_via (fun t_ k_ => XS.isub h hx rfl hd rfl k_) hr
theorem s_imul (h : At T m c below) (hx : tb.exec = Jvm.exec) {x y : Int32} (hd : decode c.code pc = .ok (.imul, 1))  (hp : pc + 1 = pc') (hr : Ends tb e below (T.setTop (mkF m pc' ls (.int (x * y) :: st))) P) : Ends tb e below (T.setTop (mkF m pc ls (.int y :: .int x :: st))) P := by
  subst hp
  exact own_via (fun t_ k_ => XS.imul h hx rfl hd rfl k_) hr
theorem s_iand (h : At T m c below) (hx : tb.exec = Jvm.exec) {x y : Int32} (hd : decode c.code pc = .ok (.iand, 1))  (hp : pc + 1 = pc') (hr : Ends tb e below (T.setTop (mkF m pc' ls (.int (x &&& y) :: st))) P) : Ends tb e below (T.setTop (mkF m pc ls (.int y :: .int x :: st))) P := by
  subst hp
  exact own_via (fun t_ k_ => XS.iand h hx rfl hd rfl k_) hr
theorem s_ior (h : At T m c below) (hx : tb.exec = Jvm.exec) {x y : Int32} (hd : decode c.code pc = .ok (.ior, 1))  (hp : pc + 1 = pc') (hr : Ends tb e below (T.setTop (mkF m pc' ls (.int (x ||| y) :: st))) P) : Ends tb e below (T.setTop (mkF m pc ls (.int y :: .int x :: st))) P := by
  subst hp
  exact own_via (fun t_ k_ => XS.ior h hx rfl hd rfl k_) hr
theorem s_ixor (h : At T m c below) (hx : tb.exec = Jvm.exec) {x y : Int32} (hd : decode c.code pc = .ok (.ixor, 1))  (hp : pc + 1 = pc') (hr : Ends tb e below (T.setTop (mkF m pc' ls (.int (x ^^^ y) :: st))) P) : Ends tb e below (T.setTop (mkF m pc ls (.int y :: .int x :: st))) P := by
  subst hp
  exact own_via (fun t_ k_ => XS.ixor h hx rfl hd rfl k_) hr
theorem s_ishl (h : At T m c below) (hx : tb.exec = Jvm.exec) {x y : Int32} (hd : decode c.code pc = .ok (.ishl, 1))  (hp : pc + 1 = pc') (hr : Ends tb e below (T.setTop (mkF m pc' ls (.int (x <<< (y &&& 31)) :: st))) P) : Ends tb e below (T.setTop (mkF m pc ls (.int y :: .int x :: st))) P := by
  subst hp
  exact own_via (fun t_ k_ => XS.ishl h hx rfl hd rfl k_) hr
theorem s_ishr (h : At T m c below) (hx : tb.exec = Jvm.exec) {x y : Int32} (hd : decode c.code pc = .ok (.ishr, 1))  (hp : pc + 1 = pc') (hr : Ends tb e below (T.setTop (mkF m pc' ls (.int (x >>> (y &&& 31)) :: st))) P) : Ends tb e below (T.setTop (mkF m pc ls (.int y :: .int x :: st))) P := by
  subst hp
  exact own_via (fun t_ k_ => XS.ishr h hx rfl hd rfl k_) hr
theorem s_iushr (h : At T m c below) (hx : tb.exec = Jvm.exec) {x y : Int32} (hd : decode c.code pc = .ok (.iushr, 1))  (hp : pc + 1 = pc') (hr : Ends tb e below (T.setTop (mkF m pc' ls (.int ((x.toUInt32 >>> (y &&& 31).toUInt32).toInt32) :: st))) P) : Ends tb e below (T.setTop (mkF m pc ls (.int y :: .int x :: st))) P := by
  subst hp
  exact own_via (fun t_ k_ => XS.iushr h hx rfl hd rfl k_) hr
theorem s_ladd (h : At T m c below) (hx : tb.exec = Jvm.exec) {x y : Int64} (hd : decode c.code pc = .ok (.ladd, 1))  (hp : pc + 1 = pc') (hr : Ends tb e below (T.setTop (mkF m pc' ls (.long (x + y) :: st))) P) : Ends tb e below (T.setTop (mkF m pc ls (.long y :: .long x :: st))) P := by
  subst hp
  exact own_via (fun t_ k_ => XS.ladd h hx rfl hd rfl k_) hr
theorem s_lsub (h : At T m c below) (hx : tb.exec = Jvm.exec) {x y : Int64} (hd : decode c.code pc = .ok (.lsub, 1))  (hp : pc + 1 = pc') (hr : Ends tb e below (T.setTop (mkF m pc' ls (.long (x - y) :: st))) P) : Ends tb e below (T.setTop (mkF m pc ls (.long y :: .long x :: st))) P := by
  subst hp
  exact own_via (fun t_ k_ => XS.lsub h hx rfl hd rfl k_) hr
theorem s_lmul (h : At T m c below) (hx : tb.exec = Jvm.exec) {x y : Int64} (hd : decode c.code pc = .ok (.lmul, 1))  (hp : pc + 1 = pc') (hr : Ends tb e below (T.setTop (mkF m pc' ls (.long (x * y) :: st))) P) : Ends tb e below (T.setTop (mkF m pc ls (.long y :: .long x :: st))) P := by
  subst hp
  exact own_via (fun t_ k_ => XS.lmul h hx rfl hd rfl k_) hr
theorem s_land (h : At T m c below) (hx : tb.exec = Jvm.exec) {x y : Int64} (hd : decode c.code pc = .ok (.land, 1))  (hp : pc + 1 = pc') (hr : Ends tb e below (T.setTop (mkF m pc' ls (.long (x &&& y) :: st))) P) : Ends tb e below (T.setTop (mkF m pc ls (.long y :: .long x :: st))) P := by
  subst hp
  exact own_via (fun t_ k_ => XS.land h hx rfl hd rfl k_) hr
theorem s_lor (h : At T m c below) (hx : tb.exec = Jvm.exec) {x y : Int64} (hd : decode c.code pc = .ok (.lor, 1))  (hp : pc + 1 = pc') (hr : Ends tb e below (T.setTop (mkF m pc' ls (.long (x ||| y) :: st))) P) : Ends tb e below (T.setTop (mkF m pc ls (.long y :: .long x :: st))) P := by
  subst hp
  exact own_via (fun t_ k_ => XS.lor h hx rfl hd rfl k_) hr
theorem s_lxor (h : At T m c below) (hx : tb.exec = Jvm.exec) {x y : Int64} (hd : decode c.code pc = .ok (.lxor, 1))  (hp : pc + 1 = pc') (hr : Ends tb e below (T.setTop (mkF m pc' ls (.long (x ^^^ y) :: st))) P) : Ends tb e below (T.setTop (mkF m pc ls (.long y :: .long x :: st))) P := by
  subst hp
  exact own_via (fun t_ k_ => XS.lxor h hx rfl hd rfl k_) hr
theorem s_lshl (h : At T m c below) (hx : tb.exec = Jvm.exec) {x : Int64} {y : Int32} (hd : decode c.code pc = .ok (.lshl, 1))  (hp : pc + 1 = pc') (hr : Ends tb e below (T.setTop (mkF m pc' ls (.long (x <<< (y &&& 0x3f).toInt64) :: st))) P) : Ends tb e below (T.setTop (mkF m pc ls (.int y :: .long x :: st))) P := by
  subst hp
  exact own_via (fun t_ k_ => XS.lshl h hx rfl hd rfl k_) hr
theorem s_lshr (h : At T m c below) (hx : tb.exec = Jvm.exec) {x : Int64} {y : Int32} (hd : decode c.code pc = .ok (.lshr, 1))  (hp : pc + 1 = pc') (hr : Ends tb e below (T.setTop (mkF m pc' ls (.long (x >>> (y &&& 0x3f).toInt64) :: st))) P) : Ends tb e below (T.setTop (mkF m pc ls (.int y :: .long x :: st))) P := by
  subst hp
  exact own_via (fun t_ k_ => XS.lshr h hx rfl hd rfl k_) hr
theorem s_lushr (h : At T m c below) (hx : tb.exec = Jvm.exec) {x : Int64} {y : Int32} (hd : decode c.code pc = .ok (.lushr, 1))  (hp : pc + 1 = pc') (hr : Ends tb e below (T.setTop (mkF m pc' ls (.long ((x.toUInt64 >>> (y &&& 0x3f).toInt64.toUInt64).toInt64) :: st))) P) : Ends tb e below (T.setTop (mkF m pc ls (.int y :: .long x :: st))) P := by
  subst hp
  exact own_via (fun t_ k_ => XS.lushr h hx rfl hd rfl k_) hr
theorem s_idiv (h : At T m c below) (hx : tb.exec = Jvm.exec) {x y : Int32} (hd : decode c.code pc = .ok (.idiv, 1)) (hy : y ≠ 0) (hp : pc + 1 = pc') (hr : Ends tb e below (T.setTop (mkF m pc' ls (.int (x / y) :: st))) P) : Ends tb e below (T.setTop (mkF m pc ls (.int y :: .int x :: st))) P := by
  subst hp
  exact own_via (fun t_ k_ => XS.idiv h hx rfl hd rfl hy k_) hr
theorem s_ldiv (h : At T m c below) (hx : tb.exec = Jvm.exec) {x y : Int64} (hd : decode c.code pc = .ok (.ldiv, 1)) (hy : y ≠ 0) (hp : pc + 1 = pc') (hr : Ends tb e below (T.setTop (mkF m pc' ls (.long (x / y) :: st))) P) : Ends tb e below (T.setTop (mkF m pc ls (.long y :: .long x :: st))) P := by
  subst hp
  exact own_via (fun t_ k_ => XS.ldiv h hx rfl hd rfl hy k_) hr
theorem s_lrem (h : At T m c below) (hx : tb.exec = Jvm.exec) {x y : Int64} (hd : decode c.code pc = .ok (.lrem, 1)) (hy : y ≠ 0) (hp : pc + 1 = pc') (hr : Ends tb e below (T.setTop (mkF m pc' ls (.long (x % y) :: st))) P) : Ends tb e below (T.setTop (mkF m pc ls (.long y :: .long x :: st))) P := by
  subst hp
  exact own_via (fun t_ k_ => XS.lrem h hx rfl hd rfl hy (by rw [lrem_mod]; exact k_)) hr
theorem s_ineg (h : At T m c below) (hx : tb.exec = Jvm.exec) {x : Int32} (hd : decode c.code pc = .ok (.ineg, 1))  (hp : pc + 1 = pc') (hr : Ends tb e below (T.setTop (mkF m pc' ls (.int (-x) :: st))) P) : Ends tb e below (T.setTop (mkF m pc ls (.int x :: st))) P := by
  subst hp
  exact own_via (fun t_ k_ => XS.ineg h hx rfl hd rfl k_) hr
theorem s_lneg (h : At T m c below) (hx : tb.exec = Jvm.exec) {x : Int64} (hd : decode c.code pc = .ok (.lneg, 1))  (hp : pc + 1 = pc') (hr : Ends tb e below (T.setTop (mkF m pc' ls (.long (-x) :: st))) P) : Ends tb e below (T.setTop (mkF m pc ls (.long x :: st))) P := by
  subst hp
  exact own_via (fun t_ k_ => XS.lneg h hx rfl hd rfl k_) hr
theorem s_i2l (h : At T m c below) (hx : tb.exec = Jvm.exec) {x : Int32} (hd : decode c.code pc = .ok (.i2l, 1))  (hp : pc + 1 = pc') (hr : Ends tb e below (T.setTop (mkF m pc' ls (.long (x.toInt64) :: st))) P) : Ends tb e below (T.setTop (mkF m pc ls (.int x :: st))) P := by
  subst hp
  exact own_via (fun t_ k_ => XS.i2l h hx rfl hd rfl k_) hr
theorem s_l2i (h : At T m c below) (hx : tb.exec = Jvm.exec) {x : Int64} (hd : decode c.code pc = .ok (.l2i, 1))  (hp : pc + 1 = pc') (hr : Ends tb e below (T.setTop (mkF m pc' ls (.int (x.toInt32) :: st))) P) : Ends tb e below (T.setTop (mkF m pc ls (.long x :: st))) P := by
  subst hp
  exact own_via (fun t_ k_ => XS.l2i h hx rfl hd rfl k_) hr
theorem s_i2b (h : At T m c below) (hx : tb.exec = Jvm.exec) {x : Int32} (hd : decode c.code pc = .ok (.i2b, 1))  (hp : pc + 1 = pc') (hr : Ends tb e below (T.setTop (mkF m pc' ls (.int (x.toInt8.toInt32) :: st))) P) : Ends tb e below (T.setTop (mkF m pc ls (.int x :: st))) P := by
  subst hp
  exact own_via (fun t_ k_ => XS.i2b h hx rfl hd rfl k_) hr
theorem s_i2s (h : At T m c below) (hx : tb.exec = Jvm.exec) {x : Int32} (hd : decode c.code pc = .ok (.i2s, 1))  (hp : pc + 1 = pc') (hr : Ends tb e below (T.setTop (mkF m pc' ls (.int (x.toInt16.toInt32) :: st))) P) : Ends tb e below (T.setTop (mkF m pc ls (.int x :: st))) P := by
  subst hp
  exact own_via (fun t_ k_ => XS.i2s h hx rfl hd rfl k_) hr
theorem s_i2c (h : At T m c below) (hx : tb.exec = Jvm.exec) {x : Int32} (hd : decode c.code pc = .ok (.i2c, 1))  (hp : pc + 1 = pc') (hr : Ends tb e below (T.setTop (mkF m pc' ls (.int (x.toUInt32.toUInt16.toUInt32.toInt32) :: st))) P) : Ends tb e below (T.setTop (mkF m pc ls (.int x :: st))) P := by
  subst hp
  exact own_via (fun t_ k_ => XS.i2c h hx rfl hd rfl k_) hr
theorem s_lcmp (h : At T m c below) (hx : tb.exec = Jvm.exec) {x y : Int64} (hd : decode c.code pc = .ok (.lcmp, 1))  (hp : pc + 1 = pc') (hr : Ends tb e below (T.setTop (mkF m pc' ls (.int (lcmpW x y) :: st))) P) : Ends tb e below (T.setTop (mkF m pc ls (.long y :: .long x :: st))) P := by
  subst hp
  exact own_via (fun t_ k_ => XS.lcmp h hx rfl hd rfl k_) hr
theorem s_l2d (h : At T m c below) (hx : tb.exec = Jvm.exec) {x : Int64} (hd : decode c.code pc = .ok (.l2d, 1))  (hp : pc + 1 = pc') (hr : Ends tb e below (T.setTop (mkF m pc' ls (.double (FP.l2d x) :: st))) P) : Ends tb e below (T.setTop (mkF m pc ls (.long x :: st))) P := by
  subst hp
  exact own_via (fun t_ k_ => XS.l2dS h hx rfl hd rfl rfl k_) hr
theorem s_dneg (h : At T m c below) (hx : tb.exec = Jvm.exec) {x : UInt64} (hd : decode c.code pc = .ok (.dneg, 1))  (hp : pc + 1 = pc') (hr : Ends tb e below (T.setTop (mkF m pc' ls (.double (FP.dneg x) :: st))) P) : Ends tb e below (T.setTop (mkF m pc ls (.double x :: st))) P := by
  subst hp
  exact own_via (fun t_ k_ => XS.dnegS h hx rfl hd rfl rfl k_) hr
theorem s_dcmp (h : At T m c below) (hx : tb.exec = Jvm.exec) {o : CmpOp} {x y : UInt64} (hd : decode c.code pc = .ok (.dcmp o, 1))  (hp : pc + 1 = pc') (hr : Ends tb e below (T.setTop (mkF m pc' ls (.int (cmpValue (FP.dcmp x y) o) :: st))) P) : Ends tb e below (T.setTop (mkF m pc ls (.double y :: .double x :: st))) P := by
  subst hp
  exact own_via (fun t_ k_ => XS.dcmpS h hx rfl hd rfl rfl k_) hr
theorem s_iinc (h : At T m c below) (hx : tb.exec = Jvm.exec) {k : Nat} {i : Int} {x v : Int32} (hd : decode c.code pc = .ok (.iinc k i, 3)) (hv : Int32.ofInt i = v) (hl : ls[k]? = some (.val (.int x))) (hl' : storeLocals ls k (.int (x + v)) = some l') (hp : pc + 3 = pc') (hr : Ends tb e below (T.setTop (mkF m pc' l' st)) P) : Ends tb e below (T.setTop (mkF m pc ls st)) P := by
  subst hp hv
  exact own_via (fun t_ k_ => XS.iinc h hx rfl hd hl hl' k_) hr
theorem s_dup (h : At T m c below) (hx : tb.exec = Jvm.exec) {x : Value} (hd : decode c.code pc = .ok (.dup, 1)) (hc : x.category = 1) (hp : pc + 1 = pc') (hr : Ends tb e below (T.setTop (mkF m pc' ls (x :: x :: st))) P) : Ends tb e below (T.setTop (mkF m pc ls (x :: st))) P := by
  subst hp
  exact own_via (fun t_ k_ => XS.dup h hx rfl hd rfl hc k_) hr
theorem s_dupX1 (h : At T m c below) (hx : tb.exec = Jvm.exec) {x y : Value} (hd : decode c.code pc = .ok (.dup_x1, 1)) (hc : x.category = 1) (hc' : y.category = 1) (hp : pc + 1 = pc') (hr : Ends tb e below (T.setTop (mkF m pc' ls (x :: y :: x :: st))) P) : Ends tb e below (T.setTop (mkF m pc ls (x :: y :: st))) P := by
  subst hp
  exact own_via (fun t_ k_ => XS.dupX1 h hx rfl hd rfl hc hc' k_) hr
theorem s_dup2 (h : At T m c below) (hx : tb.exec = Jvm.exec) {x y : Value} (hd : decode c.code pc = .ok (.dup2, 1)) (hc : x.category = 1) (hc' : y.category = 1) (hp : pc + 1 = pc') (hr : Ends tb e below (T.setTop (mkF m pc' ls (x :: y :: x :: y :: st))) P) : Ends tb e below (T.setTop (mkF m pc ls (x :: y :: st))) P := by
  subst hp
  exact own_via (fun t_ k_ => XT.dup2 h hx rfl hd rfl hc hc' k_) hr
theorem s_dup2L (h : At T m c below) (hx : tb.exec = Jvm.exec) {x : Int64} (hd : decode c.code pc = .ok (.dup2, 1))  (hp : pc + 1 = pc') (hr : Ends tb e below (T.setTop (mkF m pc' ls (.long x :: .long x :: st))) P) : Ends tb e below (T.setTop (mkF m pc ls (.long x :: st))) P := by
  subst hp
  exact own_via (fun t_ k_ => XT.dup2L h hx rfl hd rfl k_) hr
theorem s_pop (h : At T m c below) (hx : tb.exec = Jvm.exec) {x : Value} (hd : decode c.code pc = .ok (.pop, 1)) (hc : x.category = 1) (hp : pc + 1 = pc') (hr : Ends tb e below (T.setTop (mkF m pc' ls st)) P) : Ends tb e below (T.setTop (mkF m pc ls (x :: st))) P := by
  subst hp
  exact own_via (fun t_ k_ => XS.pop h hx rfl hd rfl hc k_) hr
theorem own_pop2L {target : State} {g : JFrame} (h : At T m c below) (hx : tb.exec = Jvm.exec) (hg : g.method = m) {x : Int64} {rest : List Value} (hd : decode c.code g.pc = .ok (.pop2, 1)) (hs : g.stack = .long x :: rest)
    (hr : Steps tb e below (T.setTop { g with pc := g.pc + 1, stack := rest }) target) : Steps tb e below (T.setTop g) target := by
  subst hg
  jvm_step h [h.top, hx, hd, hs, Value.category]
  exact hr
theorem s_pop2L (h : At T m c below) (hx : tb.exec = Jvm.exec) {x : Int64} (hd : decode c.code pc = .ok (.pop2, 1))  (hp : pc + 1 = pc') (hr : Ends tb e below (T.setTop (mkF m pc' ls st)) P) : Ends tb e below (T.setTop (mkF m pc ls (.long x :: st))) P := by
  subst hp
  exact own_via (fun t_ k_ => own_pop2L h hx rfl hd rfl k_) hr
theorem s_goto (h : At T m c below) (hx : tb.exec = Jvm.exec)  {o : Int} (hd : decode c.code pc = .ok (.goto o, 3))  (ho : 0 ≤ (pc : Int) + o) (hp : ((pc : Int) + o).toNat = pc') (hr : Ends tb e below (T.setTop (mkF m pc' ls st)) P) : Ends tb e below (T.setTop (mkF m pc ls st)) P := own_via (fun t_ k_ => XS.goto h hx rfl rfl hd ho hp k_) hr
theorem s_ifYes (h : At T m c below) (hx : tb.exec = Jvm.exec) {cd : ClassFile.Cond} {x : Int32} {o : Int} (hd : decode c.code pc = .ok (.ifCond cd o, 3)) (hc : ifCond.holds cd x = true) (ho : 0 ≤ (pc : Int) + o) (hp : ((pc : Int) + o).toNat = pc') (hr : Ends tb e below (T.setTop (mkF m pc' ls st)) P) : Ends tb e below (T.setTop (mkF m pc ls (.int x :: st))) P := own_via (fun t_ k_ => XS.ifYes h hx rfl rfl hd rfl hc ho hp k_) hr
theorem s_ifNo (h : At T m c below) (hx : tb.exec = Jvm.exec) {cd : ClassFile.Cond} {x : Int32} {o : Int} (hd : decode c.code pc = .ok (.ifCond cd o, 3)) (hc : ifCond.holds cd x = false) (hp : pc + 3 = pc') (hr : Ends tb e below (T.setTop (mkF m pc' ls st)) P) : Ends tb e below (T.setTop (mkF m pc ls (.int x :: st))) P := by
  subst hp
  exact own_via (fun t_ k_ => XS.ifNo h hx rfl hd rfl hc k_) hr
theorem s_icmpYes (h : At T m c below) (hx : tb.exec = Jvm.exec) {cd : ClassFile.Cond} {x y : Int32} {o : Int} (hd : decode c.code pc = .ok (.if_icmp cd o, 3)) (hc : if_icmp.holds cd x y = true) (ho : 0 ≤ (pc : Int) + o) (hp : ((pc : Int) + o).toNat = pc') (hr : Ends tb e below (T.setTop (mkF m pc' ls st)) P) : Ends tb e below (T.setTop (mkF m pc ls (.int y :: .int x :: st))) P := own_via (fun t_ k_ => XS.icmpYes h hx rfl rfl hd rfl hc ho hp k_) hr
theorem s_icmpNo (h : At T m c below) (hx : tb.exec = Jvm.exec) {cd : ClassFile.Cond} {x y : Int32} {o : Int} (hd : decode c.code pc = .ok (.if_icmp cd o, 3)) (hc : if_icmp.holds cd x y = false) (hp : pc + 3 = pc') (hr : Ends tb e below (T.setTop (mkF m pc' ls st)) P) : Ends tb e below (T.setTop (mkF m pc ls (.int y :: .int x :: st))) P := by
  subst hp
  exact own_via (fun t_ k_ => XS.icmpNo h hx rfl hd rfl hc k_) hr
theorem s_ifnullYes (h : At T m c below) (hx : tb.exec = Jvm.exec)  {o : Int} (hd : decode c.code pc = .ok (.ifnull o, 3))  (ho : 0 ≤ (pc : Int) + o) (hp : ((pc : Int) + o).toNat = pc') (hr : Ends tb e below (T.setTop (mkF m pc' ls st)) P) : Ends tb e below (T.setTop (mkF m pc ls (.null :: st))) P := own_via (fun t_ k_ => XS.ifnullYes h hx rfl rfl hd rfl ho hp k_) hr
theorem s_ifnullNo (h : At T m c below) (hx : tb.exec = Jvm.exec) {b : Addr} {o : Int} (hd : decode c.code pc = .ok (.ifnull o, 3))  (hp : pc + 3 = pc') (hr : Ends tb e below (T.setTop (mkF m pc' ls st)) P) : Ends tb e below (T.setTop (mkF m pc ls (.ref b :: st))) P := by
  subst hp
  exact own_via (fun t_ k_ => XS.ifnullNo h hx rfl hd rfl k_) hr
theorem s_ifnonnullYes (h : At T m c below) (hx : tb.exec = Jvm.exec) {b : Addr} {o : Int} (hd : decode c.code pc = .ok (.ifnonnull o, 3))  (ho : 0 ≤ (pc : Int) + o) (hp : ((pc : Int) + o).toNat = pc') (hr : Ends tb e below (T.setTop (mkF m pc' ls st)) P) : Ends tb e below (T.setTop (mkF m pc ls (.ref b :: st))) P := own_via (fun t_ k_ => XS.ifnonnullYes h hx rfl rfl hd rfl ho hp k_) hr
theorem s_ifnonnullNo (h : At T m c below) (hx : tb.exec = Jvm.exec)  {o : Int} (hd : decode c.code pc = .ok (.ifnonnull o, 3))  (hp : pc + 3 = pc') (hr : Ends tb e below (T.setTop (mkF m pc' ls st)) P) : Ends tb e below (T.setTop (mkF m pc ls (.null :: st))) P := by
  subst hp
  exact own_via (fun t_ k_ => XS.ifnonnullNo h hx rfl hd rfl k_) hr
theorem s_tswIn (h : At T m c below) (hx : tb.exec = Jvm.exec) {dflt low high : Int} {offs : Array Int} {len : Nat} {o : Int} {i : Int32} (hd : decode c.code pc = .ok (.tableswitch dflt low high offs, len)) (hin : ¬ (i.toInt < low ∨ i.toInt > high)) (hoff : offs[(i.toInt - low).toNat]? = some o) (ho : 0 ≤ (pc : Int) + o) (hp : ((pc : Int) + o).toNat = pc') (hr : Ends tb e below (T.setTop (mkF m pc' ls st)) P) : Ends tb e below (T.setTop (mkF m pc ls (.int i :: st))) P := own_via (fun t_ k_ => XS.tswIn h hx rfl rfl hd rfl hin hoff ho hp k_) hr
theorem s_tswOut (h : At T m c below) (hx : tb.exec = Jvm.exec) {dflt low high : Int} {offs : Array Int} {len : Nat} {i : Int32} (hd : decode c.code pc = .ok (.tableswitch dflt low high offs, len)) (hout : i.toInt < low ∨ i.toInt > high) (ho : 0 ≤ (pc : Int) + dflt) (hp : ((pc : Int) + dflt).toNat = pc') (hr : Ends tb e below (T.setTop (mkF m pc' ls st)) P) : Ends tb e below (T.setTop (mkF m pc ls (.int i :: st))) P := own_via (fun t_ k_ => XS.tswOut h hx rfl rfl hd rfl hout ho hp k_) hr
end OwnSteps
section OwnLaws
variable {p : Program} {l : Launch} {e : Env} {R : Room} {s : State} {m : MethodId} {args : Array Value} {below : List Frame} {meth : Method} {c : Code} {T : State} {locs : List Loc} {cells slots : Nat} {Z : State} {a0 : Array Value} {h : Heap} {P : State → Outcome → Prop} {pc pc' : Nat} {ls : Array Slot} {st : List Value}
theorem s_getF (X : Stand p l e R s m args below meth c T locs cells slots) (hx : p.tables.exec = Jvm.exec) (hZ : Z.Warmed39 s.vm) {own R0 O n d host : String} {index : Nat} (hown : s.vm.findClass own = some m.cls) (w : (Jvm.Cond.fieldLink own index R0 n d).before a0 Z = true ∨ (Jvm.Cond.fieldLinkNest own index R0 n d host).before a0 Z = true) (via : Via Z R0 O n d) (eT : T.heap = h) {a : Addr} {v : Value} (F : Fld Z h a O n d v) (hd : decode c.code pc = .ok (.getfield index, 3)) (hp : pc + 3 = pc') (k : ∀ T', Stand p l e R s m args below meth c T' locs cells slots → T'.heap = h → Ends p.tables e below (T'.setTop (mkF m pc' ls (v :: st))) P) : Ends p.tables e below (T.setTop (mkF m pc ls (.ref a :: st))) P := by
  subst hp
  obtain ⟨T', X', e', s'⟩ := getF X hx hZ hown w via eT F (g := mkF m pc ls (.ref a :: st)) rfl rfl hd
  exact own_via s' (k T' X' e')
theorem s_getS (X : Stand p l e R s m args below meth c T locs cells slots) (hx : p.tables.exec = Jvm.exec) (hZ : Z.Warmed39 s.vm) {own R0 O n d host : String} {index : Nat} (hown : s.vm.findClass own = some m.cls) (w : (Jvm.Cond.fieldLink own index R0 n d).before a0 Z = true ∨ (Jvm.Cond.fieldLinkNest own index R0 n d host).before a0 Z = true) (via : Via Z R0 O n d) (eT : T.heap = h) {v : Value} (F : Sta Z h O n d v) (hd : decode c.code pc = .ok (.getstatic index, 3)) (hp : pc + 3 = pc') (k : ∀ T', Stand p l e R s m args below meth c T' locs cells slots → T'.heap = h → Ends p.tables e below (T'.setTop (mkF m pc' ls (v :: st))) P) : Ends p.tables e below (T.setTop (mkF m pc ls st)) P := by
  subst hp
  obtain ⟨T', X', e', s'⟩ := getS2 X hx hZ hown w via eT F (g := mkF m pc ls st) rfl hd
  exact own_via s' (k T' X' e')
theorem s_putF (X : Stand p l e R s m args below meth c T locs cells slots) (hx : p.tables.exec = Jvm.exec) (hZ : Z.Warmed39 s.vm) {own R0 O n d host : String} {index : Nat} (hown : s.vm.findClass own = some m.cls) (w : (Jvm.Cond.fieldLink own index R0 n d).before a0 Z = true ∨ (Jvm.Cond.fieldLinkNest own index R0 n d host).before a0 Z = true) (via : Via Z R0 O n d) (eT : T.heap = h) {C : String} {kk : Nat} {ty : FieldType} {a : Addr} {v old : Value} (F : Fld Z h a O n d old) (E : Exa Z h a C) (L : (Jvm.Cond.lays C O n d).before a0 Z = true ∨ ((Jvm.Cond.laysFinal C O n d).before a0 Z = true ∧ own = O ∧ meth.name = "<init>")) (wi : (Jvm.Cond.instantiable C kk).before a0 Z = true) (hty : parseFieldDescriptor d = some ty) (hn : narrow ty v = v) (hf : fits ty v = true) (hd : decode c.code pc = .ok (.putfield index, 3)) (hp : pc + 3 = pc') (k : ∀ T' h', Stand p l e R s m args below meth c T' (locs ++ [⟨a, Jvm.RoadKit.slotOf Z O n d⟩]) cells slots → T'.heap = h' → Wr h h' a (Jvm.RoadKit.slotOf Z O n d) v → Ends p.tables e below (T'.setTop (mkF m pc' ls st)) P) : Ends p.tables e below (T.setTop (mkF m pc ls (v :: .ref a :: st))) P := by
  subst hp
  obtain ⟨T', h', X', e', W, s'⟩ := putF X hx hZ hown w via eT F E L wi hty hn hf (g := mkF m pc ls (v :: .ref a :: st)) rfl rfl hd
  exact own_via s' (k T' h' X' e' W)
theorem s_putFN (X : Stand p l e R s m args below meth c T locs cells slots) (hx : p.tables.exec = Jvm.exec) (hZ : Z.Warmed39 s.vm) {own R0 O n d : String} {index : Nat} (hown : s.vm.findClass own = some m.cls) (w : (Jvm.Cond.fieldLink own index R0 n d).before a0 Z = true) (via : Via Z R0 O n d) (eT : T.heap = h) {C : String} {kk : Nat} {ty : FieldType} {a : Addr} {v v' old : Value} (F : Fld Z h a O n d old) (E : Exa Z h a C) (L : (Jvm.Cond.lays C O n d).before a0 Z = true ∨ ((Jvm.Cond.laysFinal C O n d).before a0 Z = true ∧ own = O ∧ meth.name = "<init>")) (wi : (Jvm.Cond.instantiable C kk).before a0 Z = true) (hty : parseFieldDescriptor d = some ty) (hn : narrow ty v = v') (hf : fits ty v' = true) (hd : decode c.code pc = .ok (.putfield index, 3)) (hp : pc + 3 = pc') (k : ∀ T' h', Stand p l e R s m args below meth c T' (locs ++ [⟨a, Jvm.RoadKit.slotOf Z O n d⟩]) cells slots → T'.heap = h' → Wr h h' a (Jvm.RoadKit.slotOf Z O n d) v' → Ends p.tables e below (T'.setTop (mkF m pc' ls st)) P) : Ends p.tables e below (T.setTop (mkF m pc ls (v :: .ref a :: st))) P := by
  subst hp
  obtain ⟨T', h', X', e', W, s'⟩ := putFN X hx hZ hown w via eT F E L wi hty hn hf (g := mkF m pc ls (v :: .ref a :: st)) rfl rfl hd
  exact own_via s' (k T' h' X' e' W)
theorem s_newO (X : Stand p l e R s m args below meth c T locs cells slots) (hx : p.tables.exec = Jvm.exec) (hZ : Z.Warmed39 s.vm) {own C : String} {index n : Nat} (hown : s.vm.findClass own = some m.cls) (w : (Jvm.Cond.classLink own index C).before a0 Z = true) (wi : (Jvm.Cond.instantiable C n).before a0 Z = true) (wz : (Jvm.Cond.initialized C).before a0 Z = true) (eT : T.heap = h) (hd : decode c.code pc = .ok (.new index, 3)) (hc : cells + 1 ≤ R.cells) (hl : slots + n ≤ R.slots) (hp : pc + 3 = pc') (k : ∀ T' h', Stand p l e R s m args below meth c T' locs (cells + 1) (slots + n) → T'.heap = h' → Ext h h' → ∀ b, b = h.size → Exa Z h' b C → (∀ {O nm d : String} {ty : FieldType}, Laid Z a0 C O nm d → parseFieldDescriptor d = some ty → Fld Z h' b O nm d (defaultValue ty)) → Ends p.tables e below (T'.setTop (mkF m pc' ls (.ref b :: st))) P) : Ends p.tables e below (T.setTop (mkF m pc ls st)) P := by
  subst hp
  obtain ⟨T', h', X', e', E, A, D, -, s'⟩ := newO X hx hZ hown w wi wz eT (g := mkF m pc ls st) rfl hd hc hl
  exact own_via s' (k T' h' X' e' E _ rfl A D)
theorem s_newP (X : Stand p l e R s m args below meth c T locs cells slots) (hx : p.tables.exec = Jvm.exec) (hZ : Z.Warmed39 s.vm) {aty : ArrayType} (w : (Jvm.Cond.arrayClass (newarray.typeOf aty)).before a0 Z = true) (eT : T.heap = h) (hd : decode c.code pc = .ok (.newarray aty, 2)) {n : Int32} (hn : ¬ n < 0) {cap : Nat} (hcap : n.toNatClampNeg ≤ cap) (hb : cap * 8 ≤ 536870912) (hc : cells + 1 ≤ R.cells) (hl : slots + cap ≤ R.slots) (hp : pc + 2 = pc') (k : ∀ T' h', Stand p l e R s m args below meth c T' locs (cells + 1) (slots + cap) → T'.heap = h' → ∀ cA, Ext h h' → ∀ b, b = h.size → Arr Z h' b (newA cA (newarray.typeOf aty) n) (newarray.typeOf aty) → Ends p.tables e below (T'.setTop (mkF m pc' ls (.ref b :: st))) P) : Ends p.tables e below (T.setTop (mkF m pc ls (.int n :: st))) P := by
  subst hp
  obtain ⟨T', h', cA, X', e', E, A, s'⟩ := newP X hx hZ w eT (g := mkF m pc ls (.int n :: st)) rfl hd rfl hn hcap hb hc hl
  exact own_via s' (k T' h' X' e' cA E _ rfl A)
theorem s_newPE (X : Stand p l e R s m args below meth c T locs cells slots) (hx : p.tables.exec = Jvm.exec) (hZ : Z.Warmed39 s.vm) {aty : ArrayType} (w : (Jvm.Cond.arrayClass (newarray.typeOf aty)).before a0 Z = true) (eT : T.heap = h) (hd : decode c.code pc = .ok (.newarray aty, 2)) {n : Int32} (hn : ¬ n < 0) {cap : Nat} (hcap : n.toNatClampNeg ≤ cap) (hb : cap * 8 ≤ 536870912) (hc : cells + 1 ≤ R.cells) (hl : slots + cap ≤ R.slots) {ad : String} (had : "[" ++ (newarray.typeOf aty).toString = ad) (hp : pc + 2 = pc') (k : ∀ T' h', Stand p l e R s m args below meth c T' locs (cells + 1) (slots + cap) → T'.heap = h' → ∀ cA, Ext h h' → ∀ b, b = h.size → Arr Z h' b (newA cA (newarray.typeOf aty) n) (newarray.typeOf aty) → Exa Z h' b ad → Ends p.tables e below (T'.setTop (mkF m pc' ls (.ref b :: st))) P) : Ends p.tables e below (T.setTop (mkF m pc ls (.int n :: st))) P := by
  subst hp
  obtain ⟨T', h', cA, X', e', E, A, Ex, s'⟩ := newPE X hx hZ w eT (g := mkF m pc ls (.int n :: st)) rfl hd rfl hn hcap hb hc hl had
  exact own_via s' (k T' h' X' e' cA E _ rfl A Ex)
theorem s_newR (X : Stand p l e R s m args below meth c T locs cells slots) (hx : p.tables.exec = Jvm.exec) (hZ : Z.Warmed39 s.vm) {own C : String} {index : Nat} (hown : s.vm.findClass own = some m.cls) (w1 : (Jvm.Cond.classLink own index C).before a0 Z = true) (w2 : (Jvm.Cond.arrayOver (.object C)).before a0 Z = true) (eT : T.heap = h) (hd : decode c.code pc = .ok (.anewarray index, 3)) {n : Int32} (hn : ¬ n < 0) {cap : Nat} (hcap : n.toNatClampNeg ≤ cap) (hb : cap * 8 ≤ 536870912) (hc : cells + 1 ≤ R.cells) (hl : slots + cap ≤ R.slots) (hp : pc + 3 = pc') (k : ∀ T' h', Stand p l e R s m args below meth c T' locs (cells + 1) (slots + cap) → T'.heap = h' → ∀ cA, Ext h h' → ∀ b, b = h.size → Arr Z h' b (newA cA (.object C) n) (.object C) → Ends p.tables e below (T'.setTop (mkF m pc' ls (.ref b :: st))) P) : Ends p.tables e below (T.setTop (mkF m pc ls (.int n :: st))) P := by
  subst hp
  obtain ⟨T', h', cA, X', e', E, A, -, s'⟩ := newR X hx hZ hown w1 w2 eT (g := mkF m pc ls (.int n :: st)) rfl hd rfl hn hcap hb hc hl
  exact own_via s' (k T' h' X' e' cA E _ rfl A)
theorem s_stI (X : Stand p l e R s m args below meth c T locs cells slots) (hx : p.tables.exec = Jvm.exec) (hZ : Z.Warmed39 s.vm) (eT : T.heap = h) {a : Addr} {cl : Cell} (A : Arr Z h a cl .int) {j : Int32} {x : Int32} (hj : ¬ (j < 0 ∨ cl.slots.size ≤ j.toNatClampNeg)) (hd : decode c.code pc = .ok (.iastore, 1)) (hp : pc + 1 = pc') (k : ∀ T' h', Stand p l e R s m args below meth c T' (locs ++ [⟨a, j.toNatClampNeg⟩]) cells slots → T'.heap = h' → Wr h h' a j.toNatClampNeg (.int x) → Ends p.tables e below (T'.setTop (mkF m pc' ls st)) P) : Ends p.tables e below (T.setTop (mkF m pc ls (.int x :: .int j :: .ref a :: st))) P := by
  subst hp
  obtain ⟨T', h', X', e', W, s'⟩ := stI X hx hZ eT A (j := j) hj (g := mkF m pc ls (.int x :: .int j :: .ref a :: st)) rfl rfl hd
  exact own_via s' (k T' h' X' e' W)
theorem s_stJ (X : Stand p l e R s m args below meth c T locs cells slots) (hx : p.tables.exec = Jvm.exec) (hZ : Z.Warmed39 s.vm) (eT : T.heap = h) {a : Addr} {cl : Cell} (A : Arr Z h a cl .long) {j : Int32} {x : Int64} (hj : ¬ (j < 0 ∨ cl.slots.size ≤ j.toNatClampNeg)) (hd : decode c.code pc = .ok (.lastore, 1)) (hp : pc + 1 = pc') (k : ∀ T' h', Stand p l e R s m args below meth c T' (locs ++ [⟨a, j.toNatClampNeg⟩]) cells slots → T'.heap = h' → Wr h h' a j.toNatClampNeg (.long x) → Ends p.tables e below (T'.setTop (mkF m pc' ls st)) P) : Ends p.tables e below (T.setTop (mkF m pc ls (.long x :: .int j :: .ref a :: st))) P := by
  subst hp
  obtain ⟨T', h', X', e', W, s'⟩ := stJ X hx hZ eT A (j := j) hj (g := mkF m pc ls (.long x :: .int j :: .ref a :: st)) rfl rfl hd
  exact own_via s' (k T' h' X' e' W)
theorem s_stC (X : Stand p l e R s m args below meth c T locs cells slots) (hx : p.tables.exec = Jvm.exec) (hZ : Z.Warmed39 s.vm) (eT : T.heap = h) {a : Addr} {cl : Cell} (A : Arr Z h a cl .char) {j : Int32} {x : Int32} (hj : ¬ (j < 0 ∨ cl.slots.size ≤ j.toNatClampNeg)) (hd : decode c.code pc = .ok (.castore, 1)) (hp : pc + 1 = pc') (k : ∀ T' h', Stand p l e R s m args below meth c T' (locs ++ [⟨a, j.toNatClampNeg⟩]) cells slots → T'.heap = h' → Wr h h' a j.toNatClampNeg (.int (nar .char x)) → Ends p.tables e below (T'.setTop (mkF m pc' ls st)) P) : Ends p.tables e below (T.setTop (mkF m pc ls (.int x :: .int j :: .ref a :: st))) P := by
  subst hp
  obtain ⟨T', h', X', e', W, s'⟩ := stC X hx hZ eT A (j := j) hj (g := mkF m pc ls (.int x :: .int j :: .ref a :: st)) rfl rfl hd
  exact own_via s' (k T' h' X' e' W)
theorem s_stB (X : Stand p l e R s m args below meth c T locs cells slots) (hx : p.tables.exec = Jvm.exec) (hZ : Z.Warmed39 s.vm) (eT : T.heap = h) {a : Addr} {cl : Cell} (A : Arr Z h a cl .byte) {j : Int32} {x : Int32} (hj : ¬ (j < 0 ∨ cl.slots.size ≤ j.toNatClampNeg)) (hd : decode c.code pc = .ok (.bastore, 1)) (hp : pc + 1 = pc') (k : ∀ T' h', Stand p l e R s m args below meth c T' (locs ++ [⟨a, j.toNatClampNeg⟩]) cells slots → T'.heap = h' → Wr h h' a j.toNatClampNeg (.int (nar .byte x)) → Ends p.tables e below (T'.setTop (mkF m pc' ls st)) P) : Ends p.tables e below (T.setTop (mkF m pc ls (.int x :: .int j :: .ref a :: st))) P := by
  subst hp
  obtain ⟨T', h', X', e', W, s'⟩ := stB X hx hZ eT A (j := j) hj (g := mkF m pc ls (.int x :: .int j :: .ref a :: st)) rfl rfl hd
  exact own_via s' (k T' h' X' e' W)
theorem s_stN (X : Stand p l e R s m args below meth c T locs cells slots) (hx : p.tables.exec = Jvm.exec) (hZ : Z.Warmed39 s.vm) (eT : T.heap = h) {a : Addr} {cl : Cell} {ty : FieldType} (A : Arr Z h a cl ty) (hr : ty.isReference = true) {j : Int32} (hj : ¬ (j < 0 ∨ cl.slots.size ≤ j.toNatClampNeg)) (hd : decode c.code pc = .ok (.aastore, 1)) (hp : pc + 1 = pc') (k : ∀ T' h', Stand p l e R s m args below meth c T' (locs ++ [⟨a, j.toNatClampNeg⟩]) cells slots → T'.heap = h' → Wr h h' a j.toNatClampNeg .null → Ends p.tables e below (T'.setTop (mkF m pc' ls st)) P) : Ends p.tables e below (T.setTop (mkF m pc ls (.null :: .int j :: .ref a :: st))) P := by
  subst hp
  obtain ⟨T', h', X', e', W, s'⟩ := stR X hx hZ eT A (j := j) hj hr (Or.inl rfl) (g := mkF m pc ls (.null :: .int j :: .ref a :: st)) rfl rfl hd
  exact own_via s' (k T' h' X' e' W)
theorem s_iaload (X : Stand p l e R s m args below meth c T locs cells slots) (hx : p.tables.exec = Jvm.exec) (hZ : Z.Warmed39 s.vm) (eT : T.heap = h) {a : Addr} {k : ClassId} {z : Int32} {vs : List Value} {dv v : Value} {j : Int32} (F : Arv Z h a k .int z vs dv) (hj : ¬ j < 0 ∧ j < z) (hv : vs.getD j.toNatClampNeg dv = v) (hd : decode c.code pc = .ok (.iaload, 1)) (hp : pc + 1 = pc') (hr : Ends p.tables e below (T.setTop (mkF m pc' ls (v :: st))) P) : Ends p.tables e below (T.setTop (mkF m pc ls (.int j :: .ref a :: st))) P := by
  subst hp
  obtain ⟨cl, A, -, S, M, H, -⟩ := F
  have hin := inb_of S hj
  exact own_via (X.iaload hx (j := j) (v := v) (by rw [eT]; exact A.1) (State.isArrayOf_alike hZ.alike A.2.1) A.2.2 hin (H.at hin hv) (g := mkF m pc ls (.int j :: .ref a :: st)) rfl rfl hd) hr
theorem s_laload (X : Stand p l e R s m args below meth c T locs cells slots) (hx : p.tables.exec = Jvm.exec) (hZ : Z.Warmed39 s.vm) (eT : T.heap = h) {a : Addr} {k : ClassId} {z : Int32} {vs : List Value} {dv v : Value} {j : Int32} (F : Arv Z h a k .long z vs dv) (hj : ¬ j < 0 ∧ j < z) (hv : vs.getD j.toNatClampNeg dv = v) (hd : decode c.code pc = .ok (.laload, 1)) (hp : pc + 1 = pc') (hr : Ends p.tables e below (T.setTop (mkF m pc' ls (v :: st))) P) : Ends p.tables e below (T.setTop (mkF m pc ls (.int j :: .ref a :: st))) P := by
  subst hp
  obtain ⟨cl, A, -, S, M, H, -⟩ := F
  have hin := inb_of S hj
  exact own_via (X.laload hx (j := j) (v := v) (by rw [eT]; exact A.1) (State.isArrayOf_alike hZ.alike A.2.1) A.2.2 hin (H.at hin hv) (g := mkF m pc ls (.int j :: .ref a :: st)) rfl rfl hd) hr
theorem s_caload (X : Stand p l e R s m args below meth c T locs cells slots) (hx : p.tables.exec = Jvm.exec) (hZ : Z.Warmed39 s.vm) (eT : T.heap = h) {a : Addr} {k : ClassId} {z : Int32} {vs : List Value} {dv v : Value} {j : Int32} (F : Arv Z h a k .char z vs dv) (hj : ¬ j < 0 ∧ j < z) (hv : vs.getD j.toNatClampNeg dv = v) (hd : decode c.code pc = .ok (.caload, 1)) (hp : pc + 1 = pc') (hr : Ends p.tables e below (T.setTop (mkF m pc' ls (v :: st))) P) : Ends p.tables e below (T.setTop (mkF m pc ls (.int j :: .ref a :: st))) P := by
  subst hp
  obtain ⟨cl, A, -, S, M, H, -⟩ := F
  have hin := inb_of S hj
  exact own_via (X.caload hx (j := j) (v := v) (by rw [eT]; exact A.1) (State.isArrayOf_alike hZ.alike A.2.1) A.2.2 hin (H.at hin hv) (g := mkF m pc ls (.int j :: .ref a :: st)) rfl rfl hd) hr
theorem s_baload (X : Stand p l e R s m args below meth c T locs cells slots) (hx : p.tables.exec = Jvm.exec) (hZ : Z.Warmed39 s.vm) (eT : T.heap = h) {a : Addr} {k : ClassId} {z : Int32} {vs : List Value} {dv v : Value} {j : Int32} (F : Arv Z h a k .byte z vs dv) (hj : ¬ j < 0 ∧ j < z) (hv : vs.getD j.toNatClampNeg dv = v) (hd : decode c.code pc = .ok (.baload, 1)) (hp : pc + 1 = pc') (hr : Ends p.tables e below (T.setTop (mkF m pc' ls (v :: st))) P) : Ends p.tables e below (T.setTop (mkF m pc ls (.int j :: .ref a :: st))) P := by
  subst hp
  obtain ⟨cl, A, -, S, M, H, -⟩ := F
  have hin := inb_of S hj
  exact own_via (X.baloadBytes hx (j := j) (v := v) (by rw [eT]; exact A.1) (State.isArrayOf_alike hZ.alike A.2.1) A.2.2 hin (H.at hin hv) (g := mkF m pc ls (.int j :: .ref a :: st)) rfl rfl hd) hr
theorem s_arraylength (X : Stand p l e R s m args below meth c T locs cells slots) (hx : p.tables.exec = Jvm.exec) (hZ : Z.Warmed39 s.vm) (eT : T.heap = h) {a : Addr} {k : ClassId} {ty : FieldType} {z : Int32} {vs : List Value} {dv : Value} (F : Arv Z h a k ty z vs dv) (hd : decode c.code pc = .ok (.arraylength, 1)) (hp : pc + 1 = pc') (hr : Ends p.tables e below (T.setTop (mkF m pc' ls (.int z :: st))) P) : Ends p.tables e below (T.setTop (mkF m pc ls (.ref a :: st))) P := by
  subst hp
  obtain ⟨cl, A, -, S, M, H, -⟩ := F
  refine own_via (X.arraylength hx (by rw [eT]; exact A.1) (State.isArrayOf_alike hZ.alike A.2.1) (g := mkF m pc ls (.ref a :: st)) rfl rfl hd) ?_
  rw [len_of S M]
  exact hr
theorem own_set {a : Addr} {k : ClassId} {ty : FieldType} {z : Int32} {vs : List Value} {dv v : Value} {j : Int32} {cl : Cell} {h' : Heap} (F : ∃ c : Cell, c = cl ∧ Arr Z h a c ty ∧ c.cls = k ∧ c.slots.size = z.toNatClampNeg ∧ ¬ z < 0 ∧ Has c vs dv ∧ ∀ i, i < c.slots.size → fits ty (vs.getD i dv) = true) (hv : fits ty v = true) (W : Wr h h' a j.toNatClampNeg v) (i : Nat) (hj : j.toNatClampNeg = i) (hi : i < vs.length) : Arv Z h' a k ty z (vs.set i v) dv := by
  obtain ⟨c, rfl, A, q1, S, M, H, G⟩ := F
  exact Arv.set A q1 S M H G hv W i hj hi
theorem s_putI (X : Stand p l e R s m args below meth c T locs cells slots) (hx : p.tables.exec = Jvm.exec) (hZ : Z.Warmed39 s.vm) (eT : T.heap = h) {a : Addr} {k : ClassId} {z : Int32} {vs : List Value} {dv : Value} {j : Int32} {x : Int32} (F : Arv Z h a k .int z vs dv) (hj : ¬ j < 0 ∧ j < z) (i : Nat) (hi : j.toNatClampNeg = i) (hl : i < vs.length) (hd : decode c.code pc = .ok (.iastore, 1)) (hp : pc + 1 = pc') (kk : ∀ T' h', Stand p l e R s m args below meth c T' (locs ++ [⟨a, j.toNatClampNeg⟩]) cells slots → T'.heap = h' → Wr h h' a j.toNatClampNeg (.int x) → Arv Z h' a k .int z (vs.set i (.int x)) dv → Ends p.tables e below (T'.setTop (mkF m pc' ls st)) P) : Ends p.tables e below (T.setTop (mkF m pc ls (.int x :: .int j :: .ref a :: st))) P := by
  obtain ⟨cl, A, q1, S, M, H, G⟩ := F
  exact s_stI X hx hZ eT A (inb_of S hj) hd hp fun T' h' X' e' W => kk T' h' X' e' W (Arv.set A q1 S M H G rfl W i hi hl)
theorem s_putJ (X : Stand p l e R s m args below meth c T locs cells slots) (hx : p.tables.exec = Jvm.exec) (hZ : Z.Warmed39 s.vm) (eT : T.heap = h) {a : Addr} {k : ClassId} {z : Int32} {vs : List Value} {dv : Value} {j : Int32} {x : Int64} (F : Arv Z h a k .long z vs dv) (hj : ¬ j < 0 ∧ j < z) (i : Nat) (hi : j.toNatClampNeg = i) (hl : i < vs.length) (hd : decode c.code pc = .ok (.lastore, 1)) (hp : pc + 1 = pc') (kk : ∀ T' h', Stand p l e R s m args below meth c T' (locs ++ [⟨a, j.toNatClampNeg⟩]) cells slots → T'.heap = h' → Wr h h' a j.toNatClampNeg (.long x) → Arv Z h' a k .long z (vs.set i (.long x)) dv → Ends p.tables e below (T'.setTop (mkF m pc' ls st)) P) : Ends p.tables e below (T.setTop (mkF m pc ls (.long x :: .int j :: .ref a :: st))) P := by
  obtain ⟨cl, A, q1, S, M, H, G⟩ := F
  exact s_stJ X hx hZ eT A (inb_of S hj) hd hp fun T' h' X' e' W => kk T' h' X' e' W (Arv.set A q1 S M H G rfl W i hi hl)
theorem s_putC (X : Stand p l e R s m args below meth c T locs cells slots) (hx : p.tables.exec = Jvm.exec) (hZ : Z.Warmed39 s.vm) (eT : T.heap = h) {a : Addr} {k : ClassId} {z : Int32} {vs : List Value} {dv : Value} {j : Int32} {x : Int32} (F : Arv Z h a k .char z vs dv) (hj : ¬ j < 0 ∧ j < z) (i : Nat) (hi : j.toNatClampNeg = i) (hl : i < vs.length) (hd : decode c.code pc = .ok (.castore, 1)) (hp : pc + 1 = pc') (kk : ∀ T' h', Stand p l e R s m args below meth c T' (locs ++ [⟨a, j.toNatClampNeg⟩]) cells slots → T'.heap = h' → Wr h h' a j.toNatClampNeg (.int (nar .char x)) → Arv Z h' a k .char z (vs.set i (.int (nar .char x))) dv → Ends p.tables e below (T'.setTop (mkF m pc' ls st)) P) : Ends p.tables e below (T.setTop (mkF m pc ls (.int x :: .int j :: .ref a :: st))) P := by
  obtain ⟨cl, A, q1, S, M, H, G⟩ := F
  exact s_stC X hx hZ eT A (inb_of S hj) hd hp fun T' h' X' e' W => kk T' h' X' e' W (Arv.set A q1 S M H G (fits_nar_char _) W i hi hl)
theorem s_putB (X : Stand p l e R s m args below meth c T locs cells slots) (hx : p.tables.exec = Jvm.exec) (hZ : Z.Warmed39 s.vm) (eT : T.heap = h) {a : Addr} {k : ClassId} {z : Int32} {vs : List Value} {dv : Value} {j : Int32} {x : Int32} (F : Arv Z h a k .byte z vs dv) (hj : ¬ j < 0 ∧ j < z) (i : Nat) (hi : j.toNatClampNeg = i) (hl : i < vs.length) (hd : decode c.code pc = .ok (.bastore, 1)) (hp : pc + 1 = pc') (kk : ∀ T' h', Stand p l e R s m args below meth c T' (locs ++ [⟨a, j.toNatClampNeg⟩]) cells slots → T'.heap = h' → Wr h h' a j.toNatClampNeg (.int (nar .byte x)) → Arv Z h' a k .byte z (vs.set i (.int (nar .byte x))) dv → Ends p.tables e below (T'.setTop (mkF m pc' ls st)) P) : Ends p.tables e below (T.setTop (mkF m pc ls (.int x :: .int j :: .ref a :: st))) P := by
  obtain ⟨cl, A, q1, S, M, H, G⟩ := F
  exact s_stB X hx hZ eT A (inb_of S hj) hd hp fun T' h' X' e' W => kk T' h' X' e' W (Arv.set A q1 S M H G (fits_nar_byte _) W i hi hl)
theorem s_initO (X : Stand p l e R s m args below meth c T locs cells slots) (hx : p.tables.exec = Jvm.exec) (hZ : Z.Warmed39 s.vm) {own : String} {idx : Nat} (hown : s.vm.findClass own = some m.cls) (w1 : (Jvm.Cond.methodLink own idx Lib.objectInit).before a0 Z = true) (w2 : (Jvm.Cond.instanceMethod Lib.objectInit).before a0 Z = true) (w3 : (Jvm.Cond.code Lib.objectInit ⟨#[0xb1]⟩ 1 none).before a0 Z = true) (eT : T.heap = h) (hsize : ls.size = c.maxLocals) {a : Addr} (hd : decode c.code pc = .ok (.invokespecial idx, 3)) (hf : 1 ≤ R.frames) {W : Nat} (hW : (st.map fun v => v.category).sum ≤ W) (hl : W + 12 ≤ R.locals) (hp : pc + 3 = pc') (k : ∀ T', Stand p l e R s m args below meth c T' locs cells slots → T'.heap = h → Ends p.tables e below (T'.setTop (mkF m pc' ls st)) P) : Ends p.tables e below (T.setTop (mkF m pc ls (.ref a :: st))) P := by
  subst hp
  obtain ⟨T', X', e', s'⟩ := initO X hx hZ hown w1 w2 w3 eT (g := mkF m pc ls (.ref a :: st)) rfl hsize rfl hd hf (W := W) (by show 2 * 0 + _ ≤ _; omega) hl
  exact own_via s' (k T' X' e')
theorem s_castY (X : Stand p l e R s m args below meth c T locs cells slots) (hx : p.tables.exec = Jvm.exec) (hZ : Z.Warmed39 s.vm) {own K : String} {index : Nat} (hown : s.vm.findClass own = some m.cls) (w : (Jvm.Cond.classLink own index K).before a0 Z = true) (eT : T.heap = h) {a : Addr} (F : Ins Z h a K true) (hd : decode c.code pc = .ok (.checkcast index, 3)) (hp : pc + 3 = pc') (k : ∀ T', Stand p l e R s m args below meth c T' locs cells slots → T'.heap = h → Ends p.tables e below (T'.setTop (mkF m pc' ls (.ref a :: st))) P) : Ends p.tables e below (T.setTop (mkF m pc ls (.ref a :: st))) P := by
  subst hp
  obtain ⟨T', X', e', s'⟩ := castY X hx hZ hown w eT F (g := mkF m pc ls (.ref a :: st)) rfl rfl hd
  exact own_via s' (k T' X' e')
theorem s_instY (X : Stand p l e R s m args below meth c T locs cells slots) (hx : p.tables.exec = Jvm.exec) (hZ : Z.Warmed39 s.vm) {own K : String} {index : Nat} (hown : s.vm.findClass own = some m.cls) (w : (Jvm.Cond.classLink own index K).before a0 Z = true) (eT : T.heap = h) {a : Addr} (F : Ins Z h a K true) (hd : decode c.code pc = .ok (.instanceof index, 3)) (hp : pc + 3 = pc') (k : ∀ T', Stand p l e R s m args below meth c T' locs cells slots → T'.heap = h → Ends p.tables e below (T'.setTop (mkF m pc' ls (.int 1 :: st))) P) : Ends p.tables e below (T.setTop (mkF m pc ls (.ref a :: st))) P := by
  subst hp
  obtain ⟨T', X', e', s'⟩ := instY X hx hZ hown w eT F (g := mkF m pc ls (.ref a :: st)) rfl rfl hd
  exact own_via s' (k T' X' e')
theorem s_callS (X : Stand p l e R s m args below meth c T locs cells slots) (hx : p.tables.exec = Jvm.exec) (hZ : Z.Warmed39 s.vm) {y : MethodName} {bytes : ByteArray} {maxL : Nat} {ret : Option FieldType} {rm : Room} {W : Nat} {as' : Array Value} {Q : Option Value → Heap → List Loc → Prop} {own : String} {index : Nat} (hown : s.vm.findClass own = some m.cls) (w1 : (Jvm.Cond.methodLink own index y).before a0 Z = true) (w2 : (Jvm.Cond.static y).before a0 Z = true) (w3 : (Jvm.Cond.initialized y.cls).before a0 Z = true) (w4 : (Jvm.Cond.code y bytes maxL ret).before a0 Z = true) (hy : y.cls ≠ "java/lang/invoke/MethodHandle" ∧ y.cls ≠ "java/lang/invoke/VarHandle") (eT : T.heap = h) (hM : MetFree l y (head1 [Jvm.Cond.code y bytes maxL ret] rm) (fun a U => a = as' ∧ Z.Warmed39 U.vm ∧ U.heap = h) (fun _ _ _ _ _ => True) (fun _ U o U' => ∃ v L, o = .returned v ∧ Q v U'.heap L ∧ FrameEnd U o U' L rm.cells rm.slots)) (hsize : ls.size = c.maxLocals) (argsL rest : List Value) (has : as' = argsL.toArray) (hlen : ∀ sig, parseMethodDescriptor y.desc = some sig → argsL.length = sig.parameters.length) (hstack : st = argsL.reverse ++ rest) (hW : (rest.map fun v => v.category).sum ≤ W) (hf : rm.frames + 1 ≤ R.frames) (hl : W + (maxL + 11) + rm.locals ≤ R.locals) (hce : cells + rm.cells ≤ R.cells) (hsl : slots + rm.slots ≤ R.slots) (hp : pc + 3 = pc') (hd : decode c.code pc = .ok (.invokestatic index, 3)) (k : ∀ T' v L, Stand p l e R s m args below meth c T' (locs ++ L) (cells + rm.cells) (slots + rm.slots) → Q v T'.heap L → Ends p.tables e below (T'.setTop (mkF m pc' ls (v.toList ++ rest))) P) : Ends p.tables e below (T.setTop (mkF m pc ls st)) P := by
  subst hp has hstack
  obtain ⟨v, _, ⟨T', _, _, _⟩, -, X', ⟨L, hQ, e1, e2, e3⟩, s'⟩ := Jvm.LawKit.callS X hx (y := y) hown (mvT hZ w1) (mvT hZ w2) (mvT hZ w3) (mvT hZ w4) hy (backOf (W := W) hM hZ w4 w3 hf hl) (g := mkF m pc ls (argsL.reverse ++ rest)) rfl hsize (argsL := argsL) (rest := rest) hlen rfl (by show 2 * 0 + _ ≤ _; omega) hd (fun _ _ => ⟨rfl, eT, hce, hsl⟩)
  dsimp only [Pt.U, Pt.locs, Pt.cells, Pt.slots] at X' e1 e2 e3 s' hQ
  subst e1 e2 e3
  exact own_via s' (k T' v L X' hQ)
theorem s_callI (X : Stand p l e R s m args below meth c T locs cells slots) (hx : p.tables.exec = Jvm.exec) (hZ : Z.Warmed39 s.vm) {y : MethodName} {bytes : ByteArray} {maxL : Nat} {rm : Room} {W : Nat} {as' : Array Value} {Q : Option Value → Heap → List Loc → Prop} {own : String} {index : Nat} (hy1 : y.name = "<init>") (hown : s.vm.findClass own = some m.cls) (w1 : (Jvm.Cond.methodLink own index y).before a0 Z = true) (w2 : (Jvm.Cond.instanceMethod y).before a0 Z = true) (w3 : (Jvm.Cond.initialized y.cls).before a0 Z = true) (w4 : (Jvm.Cond.code y bytes maxL none).before a0 Z = true) (hy : y.cls ≠ "java/lang/invoke/MethodHandle" ∧ y.cls ≠ "java/lang/invoke/VarHandle") (eT : T.heap = h) (hM : MetFree l y (head1 [Jvm.Cond.code y bytes maxL none] rm) (fun a U => a = as' ∧ Z.Warmed39 U.vm ∧ U.heap = h) (fun _ _ _ _ _ => True) (fun _ U o U' => ∃ v L, o = .returned v ∧ Q v U'.heap L ∧ FrameEnd U o U' L rm.cells rm.slots)) (a : Addr) (hsize : ls.size = c.maxLocals) (argsL rest : List Value) (has : as' = (.ref a :: argsL).toArray) (hlen : ∀ sig, parseMethodDescriptor y.desc = some sig → argsL.length = sig.parameters.length) (hstack : st = argsL.reverse ++ .ref a :: rest) (hW : (rest.map fun v => v.category).sum ≤ W) (hf : rm.frames + 1 ≤ R.frames) (hl : W + (maxL + 11) + rm.locals ≤ R.locals) (hce : cells + rm.cells ≤ R.cells) (hsl : slots + rm.slots ≤ R.slots) (hp : pc + 3 = pc') (hd : decode c.code pc = .ok (.invokespecial index, 3)) (k : ∀ T' v L, Stand p l e R s m args below meth c T' (locs ++ L) (cells + rm.cells) (slots + rm.slots) → Q v T'.heap L → Ends p.tables e below (T'.setTop (mkF m pc' ls (v.toList ++ rest))) P) : Ends p.tables e below (T.setTop (mkF m pc ls st)) P := by
  subst hp has hstack
  obtain ⟨v, _, ⟨T', _, _, _⟩, -, X', ⟨L, hQ, e1, e2, e3⟩, s'⟩ := X.specialBack hx (y := y) hy1 hown (mvT hZ w1) (mvT hZ w2) (mvT hZ w4) hy (backOf (W := W) hM hZ w4 w3 hf hl) (g := mkF m pc ls (argsL.reverse ++ .ref a :: rest)) rfl hsize (Steps.refl _) (a := a) (argsL := argsL) (rest := rest) hlen rfl (by show 2 * 0 + _ ≤ _; omega) hd (fun _ _ => ⟨rfl, eT, hce, hsl⟩)
  dsimp only [Pt.U, Pt.locs, Pt.cells, Pt.slots] at X' e1 e2 e3 s' hQ
  subst e1 e2 e3
  exact own_via (fun t_ k_ => s'.trans k_) (k T' v L X' hQ)
theorem s_callV (X : Stand p l e R s m args below meth c T locs cells slots) (hx : p.tables.exec = Jvm.exec) (hZ : Z.Warmed39 s.vm) {y : MethodName} {bytes : ByteArray} {maxL : Nat} {ret : Option FieldType} {rm : Room} {W : Nat} {as' : Array Value} {Q : Option Value → Heap → List Loc → Prop} {a : Addr} {own C : String} {index : Nat} (hown : s.vm.findClass own = some m.cls) (w1 : (Jvm.Cond.methodLink own index y).before a0 Z = true) (w2 : (Jvm.Cond.declares y).before a0 Z = true) (w3 : (Jvm.Cond.initialized y.cls).before a0 Z = true) (w4 : (Jvm.Cond.code y bytes maxL ret).before a0 Z = true) (w5 : (Jvm.Cond.selects C y y).before a0 Z = true) (w6 : (Jvm.Cond.instanceMethod y).before a0 Z = true) (hy : y.cls ≠ "java/lang/invoke/MethodHandle" ∧ y.cls ≠ "java/lang/invoke/VarHandle") (eT : T.heap = h) (E : Exa Z h a C) (hM : MetFree l y (head1 [Jvm.Cond.code y bytes maxL ret] rm) (fun a U => a = as' ∧ Z.Warmed39 U.vm ∧ U.heap = h) (fun _ _ _ _ _ => True) (fun _ U o U' => ∃ v L, o = .returned v ∧ Q v U'.heap L ∧ FrameEnd U o U' L rm.cells rm.slots)) (hsize : ls.size = c.maxLocals) (argsL rest : List Value) (has : as' = (.ref a :: argsL).toArray) (hlen : ∀ sig, parseMethodDescriptor y.desc = some sig → argsL.length = sig.parameters.length) (hstack : st = argsL.reverse ++ .ref a :: rest) (hW : (rest.map fun v => v.category).sum ≤ W) (hf : rm.frames + 1 ≤ R.frames) (hl : W + (maxL + 11) + rm.locals ≤ R.locals) (hce : cells + rm.cells ≤ R.cells) (hsl : slots + rm.slots ≤ R.slots) (hp : pc + 3 = pc') (hd : decode c.code pc = .ok (.invokevirtual index, 3)) (k : ∀ T' v L, Stand p l e R s m args below meth c T' (locs ++ L) (cells + rm.cells) (slots + rm.slots) → Q v T'.heap L → Ends p.tables e below (T'.setTop (mkF m pc' ls (v.toList ++ rest))) P) : Ends p.tables e below (T.setTop (mkF m pc ls st)) P := by
  subst hp has hstack
  obtain ⟨cq, kq, qa, qb, qc⟩ := isOf hZ eT E
  obtain ⟨v, _, ⟨T', _, _, _⟩, -, X', ⟨L, hQ, e1, e2, e3⟩, s'⟩ := X.virtualBack hx (y := y) (z := y) hown (mvT hZ w1) (mvT hZ w2) (notFace_of_selects (args := #[]) (mvT hZ w5)) (mvT hZ w5) (mvT hZ w6) hy (backOf (W := W) hM hZ w4 w3 hf hl) qa qc (g := mkF m pc ls (argsL.reverse ++ .ref a :: rest)) rfl hsize (Steps.refl _) (argsL := argsL) (rest := rest) hlen rfl (by show 2 * 0 + _ ≤ _; omega) hd (fun _ _ => ⟨rfl, eT, hce, hsl⟩)
  dsimp only [Pt.U, Pt.locs, Pt.cells, Pt.slots] at X' e1 e2 e3 s' hQ
  subst e1 e2 e3
  exact own_via (fun t_ k_ => s'.trans k_) (k T' v L X' hQ)
theorem s_callP (X : Stand p l e R s m args below meth c T locs cells slots) (hx : p.tables.exec = Jvm.exec) (hZ : Z.Warmed39 s.vm) {y : MethodName} {bytes : ByteArray} {maxL : Nat} {ret : Option FieldType} {rm : Room} {W : Nat} {as' : Array Value} {Q : Option Value → Heap → List Loc → Prop} {a : Addr} {own C : String} {index : Nat} {zz : MethodName} (hzz : zz.cls = y.cls) (hown : s.vm.findClass own = some m.cls) (w1 : (Jvm.Cond.methodLink own index y).before a0 Z = true) (w2 : (Jvm.Cond.privateMethod y).before a0 Z = true) (w3 : (Jvm.Cond.initialized y.cls).before a0 Z = true) (w4 : (Jvm.Cond.code y bytes maxL ret).before a0 Z = true) (w5 : (Jvm.Cond.selects zz.cls zz zz).before a0 Z = true) (w6 : (Jvm.Cond.instanceMethod y).before a0 Z = true) (hy : y.cls ≠ "java/lang/invoke/MethodHandle" ∧ y.cls ≠ "java/lang/invoke/VarHandle") (eT : T.heap = h) (E : Exa Z h a C) (hM : MetFree l y (head1 [Jvm.Cond.code y bytes maxL ret] rm) (fun a U => a = as' ∧ Z.Warmed39 U.vm ∧ U.heap = h) (fun _ _ _ _ _ => True) (fun _ U o U' => ∃ v L, o = .returned v ∧ Q v U'.heap L ∧ FrameEnd U o U' L rm.cells rm.slots)) (hsize : ls.size = c.maxLocals) (argsL rest : List Value) (has : as' = (.ref a :: argsL).toArray) (hlen : ∀ sig, parseMethodDescriptor y.desc = some sig → argsL.length = sig.parameters.length) (hstack : st = argsL.reverse ++ .ref a :: rest) (hW : (rest.map fun v => v.category).sum ≤ W) (hf : rm.frames + 1 ≤ R.frames) (hl : W + (maxL + 11) + rm.locals ≤ R.locals) (hce : cells + rm.cells ≤ R.cells) (hsl : slots + rm.slots ≤ R.slots) (hp : pc + 3 = pc') (hd : decode c.code pc = .ok (.invokevirtual index, 3)) (k : ∀ T' v L, Stand p l e R s m args below meth c T' (locs ++ L) (cells + rm.cells) (slots + rm.slots) → Q v T'.heap L → Ends p.tables e below (T'.setTop (mkF m pc' ls (v.toList ++ rest))) P) : Ends p.tables e below (T.setTop (mkF m pc ls st)) P := by
  subst hp has hstack
  obtain ⟨cq, qa, qb⟩ := E.cell
  have hpr := Cond.privateMethod_at (mvP hZ w2 (args := #[]))
  obtain ⟨v, _, ⟨T', _, _, _⟩, -, X', ⟨L, hQ, e1, e2, e3⟩, s'⟩ := X.privateBack hx (y := y) hown (mvT hZ w1) (mvT hZ w6) (own_selPriv hzz (mvT hZ w5) hpr (mvT hZ w6) hy) hpr (mvT hZ w4) hy (backOf (W := W) hM hZ w4 w3 hf hl) (g := mkF m pc ls (argsL.reverse ++ .ref a :: rest)) rfl hsize (Steps.refl _) (a := a) (by rw [eT]; exact qa) qb (argsL := argsL) (rest := rest) hlen rfl (by show 2 * 0 + _ ≤ _; omega) hd (fun _ _ => ⟨rfl, eT, hce, hsl⟩)
  dsimp only [Pt.U, Pt.locs, Pt.cells, Pt.slots] at X' e1 e2 e3 s' hQ
  subst e1 e2 e3
  exact own_via (fun t_ k_ => s'.trans k_) (k T' v L X' hQ)
theorem s_irem (X : Stand p l e R s m args below meth c T locs cells slots) (hx : p.tables.exec = Jvm.exec) {x y : Int32} (hd : decode c.code pc = .ok (.irem, 1)) (hy : y ≠ 0) (hp : pc + 1 = pc') (hr : Ends p.tables e below (T.setTop (mkF m pc' ls (.int (x % y) :: st))) P) : Ends p.tables e below (T.setTop (mkF m pc ls (.int y :: .int x :: st))) P := by
  subst hp
  exact own_via (fun t_ k_ => iremM X hx rfl hd rfl hy k_) hr
theorem s_ldcI (X : Stand p l e R s m args below meth c T locs cells slots) (hx : p.tables.exec = Jvm.exec) (hZ : Z.Warmed39 s.vm) {own : String} {index : Nat} {v : Int32} (hown : s.vm.findClass own = some m.cls) (w : (Jvm.Cond.constant own index v).before a0 Z = true) (hd : decode c.code pc = .ok (.ldc index, 2)) (hp : pc + 2 = pc') (hr : Ends p.tables e below (T.setTop (mkF m pc' ls (.int v :: st))) P) : Ends p.tables e below (T.setTop (mkF m pc ls st)) P := by
  subst hp
  exact own_via (X.ldcInt hx hown (mvT hZ w) (g := mkF m pc ls st) rfl hd) hr
theorem s_ldcJ (X : Stand p l e R s m args below meth c T locs cells slots) (hx : p.tables.exec = Jvm.exec) (hZ : Z.Warmed39 s.vm) {own : String} {index : Nat} {v : Int64} (hown : s.vm.findClass own = some m.cls) (w : (Jvm.Cond.constantLong own index v).before a0 Z = true) (hd : decode c.code pc = .ok (.ldc2_w index, 3)) (hp : pc + 3 = pc') (hr : Ends p.tables e below (T.setTop (mkF m pc' ls (.long v :: st))) P) : Ends p.tables e below (T.setTop (mkF m pc ls st)) P := by
  subst hp
  exact own_via (X.ldc2Long hx hown (mvT hZ w) (g := mkF m pc ls st) rfl hd) hr
theorem s_callSS {vm0 : Vm} (X : Stand p l e R (s.setVm vm0) m args below meth c T locs cells slots) (hx : p.tables.exec = Jvm.exec) (hZ : Z.Warmed39 (s.setVm vm0).vm) {k0 : Nat} (hS : s.Since vm0 k0) (hk : k0 ≤ h.size) {y : MethodName} {bytes : ByteArray} {maxL : Nat} {ret : Option FieldType} {rm : Room} {W : Nat} {as' : Array Value} {Q : Option Value → Heap → List Loc → Prop} {own : String} {index : Nat} (hown : (s.setVm vm0).vm.findClass own = some m.cls) (w1 : (Jvm.Cond.methodLink own index y).before a0 Z = true) (w2 : (Jvm.Cond.static y).before a0 Z = true) (w3 : (Jvm.Cond.initialized y.cls).before a0 Z = true) (w4 : (Jvm.Cond.code y bytes maxL ret).before a0 Z = true) (hy : y.cls ≠ "java/lang/invoke/MethodHandle" ∧ y.cls ≠ "java/lang/invoke/VarHandle") (eT : T.heap = h) (hM : MetFree l y (head1 [Jvm.Cond.code y bytes maxL ret] rm) (fun a U => a = as' ∧ Z.Warmed39 U.vm ∧ U.heap = h) (fun _ _ _ _ _ => True) (fun _ U o U' => ∃ v L, o = .returned v ∧ Q v U'.heap L ∧ ReturnedEndW U o U' L rm.cells rm.slots)) (hsize : ls.size = c.maxLocals) (argsL rest : List Value) (has : as' = argsL.toArray) (hlen : ∀ sig, parseMethodDescriptor y.desc = some sig → argsL.length = sig.parameters.length) (hstack : st = argsL.reverse ++ rest) (hW : (rest.map fun v => v.category).sum ≤ W) (hf : rm.frames + 1 ≤ R.frames) (hl : W + (maxL + 11) + rm.locals ≤ R.locals) (hce : cells + rm.cells ≤ R.cells) (hsl : slots + rm.slots ≤ R.slots) (hp : pc + 3 = pc') (hd : decode c.code pc = .ok (.invokestatic index, 3)) (k : ∀ T' v L, Stand p l e R (s.setVm T'.vm) m args below meth c T' (locs ++ L) (cells + rm.cells) (slots + rm.slots) → s.Since T'.vm T'.heap.size → Z.Warmed39 (s.setVm T'.vm).vm → (s.setVm T'.vm).vm.findClass own = some m.cls → Q v T'.heap L → Ends p.tables e below (T'.setTop (mkF m pc' ls (v.toList ++ rest))) P) : Ends p.tables e below (T.setTop (mkF m pc ls st)) P := by
  subst hp has hstack
  obtain ⟨v, _, ⟨T', _, _, _⟩, -, X', S', g', ⟨L, hQ, e1, e2, e3⟩, s'⟩ := callSS X hx (y := y) hown (mvT hZ w1) (mvT hZ w2) (mvT hZ w3) (mvT hZ w4) hy (backOfS (W := W) hM hZ w4 w3 hf hl) (g := mkF m pc ls (argsL.reverse ++ rest)) rfl hsize (argsL := argsL) (rest := rest) hlen rfl (by show 2 * 0 + _ ≤ _; omega) hd (fun _ _ => ⟨rfl, eT, hce, hsl⟩)
  dsimp only [Pt.U, Pt.locs, Pt.cells, Pt.slots] at X' S' g' e1 e2 e3 s' hQ
  subst e1 e2 e3
  obtain ⟨X2, S2, Z2, o2⟩ := rebS hS (show _ ≤ T.heap.size by rw [eT]; exact hk) X' S' g' hZ hown
  exact own_via (fun t_ k_ => s'.trans k_) (k T' v L X2 S2 Z2 o2 hQ)
theorem s_callIS {vm0 : Vm} (X : Stand p l e R (s.setVm vm0) m args below meth c T locs cells slots) (hx : p.tables.exec = Jvm.exec) (hZ : Z.Warmed39 (s.setVm vm0).vm) {k0 : Nat} (hS : s.Since vm0 k0) (hk : k0 ≤ h.size) {y : MethodName} {bytes : ByteArray} {maxL : Nat} {rm : Room} {W : Nat} {as' : Array Value} {Q : Option Value → Heap → List Loc → Prop} {own : String} {index : Nat} (hown : (s.setVm vm0).vm.findClass own = some m.cls) (hy1 : y.name = "<init>") (w1 : (Jvm.Cond.methodLink own index y).before a0 Z = true) (w2 : (Jvm.Cond.instanceMethod y).before a0 Z = true) (w3 : (Jvm.Cond.initialized y.cls).before a0 Z = true) (w4 : (Jvm.Cond.code y bytes maxL none).before a0 Z = true) (hy : y.cls ≠ "java/lang/invoke/MethodHandle" ∧ y.cls ≠ "java/lang/invoke/VarHandle") (eT : T.heap = h) (hM : MetFree l y (head1 [Jvm.Cond.code y bytes maxL none] rm) (fun a U => a = as' ∧ Z.Warmed39 U.vm ∧ U.heap = h) (fun _ _ _ _ _ => True) (fun _ U o U' => ∃ v L, o = .returned v ∧ Q v U'.heap L ∧ ReturnedEndW U o U' L rm.cells rm.slots)) (a : Addr) (hsize : ls.size = c.maxLocals) (argsL rest : List Value) (has : as' = (.ref a :: argsL).toArray) (hlen : ∀ sig, parseMethodDescriptor y.desc = some sig → argsL.length = sig.parameters.length) (hstack : st = argsL.reverse ++ .ref a :: rest) (hW : (rest.map fun v => v.category).sum ≤ W) (hf : rm.frames + 1 ≤ R.frames) (hl : W + (maxL + 11) + rm.locals ≤ R.locals) (hce : cells + rm.cells ≤ R.cells) (hsl : slots + rm.slots ≤ R.slots) (hp : pc + 3 = pc') (hd : decode c.code pc = .ok (.invokespecial index, 3)) (k : ∀ T' v L, Stand p l e R (s.setVm T'.vm) m args below meth c T' (locs ++ L) (cells + rm.cells) (slots + rm.slots) → s.Since T'.vm T'.heap.size → Z.Warmed39 (s.setVm T'.vm).vm → (s.setVm T'.vm).vm.findClass own = some m.cls → Q v T'.heap L → Ends p.tables e below (T'.setTop (mkF m pc' ls (v.toList ++ rest))) P) : Ends p.tables e below (T.setTop (mkF m pc ls st)) P := by
  subst hp has hstack
  obtain ⟨v, _, ⟨T', _, _, _⟩, -, X', S', g', ⟨L, hQ, e1, e2, e3⟩, s'⟩ := X.specialBackS hx (y := y) hy1 hown (mvT hZ w1) (mvT hZ w2) (mvT hZ w4) hy (backOfS (W := W) hM hZ w4 w3 hf hl) (g := mkF m pc ls (argsL.reverse ++ .ref a :: rest)) rfl hsize (Steps.refl _) (a := a) (argsL := argsL) (rest := rest) hlen rfl (by show 2 * 0 + _ ≤ _; omega) hd (fun _ _ => ⟨rfl, eT, hce, hsl⟩)
  dsimp only [Pt.U, Pt.locs, Pt.cells, Pt.slots] at X' S' g' e1 e2 e3 s' hQ
  subst e1 e2 e3
  obtain ⟨X2, S2, Z2, o2⟩ := rebS hS (show _ ≤ T.heap.size by rw [eT]; exact hk) X' S' g' hZ hown
  exact own_via (fun t_ k_ => s'.trans k_) (k T' v L X2 S2 Z2 o2 hQ)
theorem s_callVS {vm0 : Vm} (X : Stand p l e R (s.setVm vm0) m args below meth c T locs cells slots) (hx : p.tables.exec = Jvm.exec) (hZ : Z.Warmed39 (s.setVm vm0).vm) {k0 : Nat} (hS : s.Since vm0 k0) (hk : k0 ≤ h.size) {y : MethodName} {bytes : ByteArray} {maxL : Nat} {ret : Option FieldType} {rm : Room} {W : Nat} {as' : Array Value} {Q : Option Value → Heap → List Loc → Prop} {a : Addr} {C : String} {own : String} {index : Nat} (hown : (s.setVm vm0).vm.findClass own = some m.cls) (w1 : (Jvm.Cond.methodLink own index y).before a0 Z = true) (w2 : (Jvm.Cond.declares y).before a0 Z = true) (w3 : (Jvm.Cond.initialized y.cls).before a0 Z = true) (w4 : (Jvm.Cond.code y bytes maxL ret).before a0 Z = true) (w5 : (Jvm.Cond.selects C y y).before a0 Z = true) (w6 : (Jvm.Cond.instanceMethod y).before a0 Z = true) (hy : y.cls ≠ "java/lang/invoke/MethodHandle" ∧ y.cls ≠ "java/lang/invoke/VarHandle") (eT : T.heap = h) (E : Exa Z h a C) (hM : MetFree l y (head1 [Jvm.Cond.code y bytes maxL ret] rm) (fun a U => a = as' ∧ Z.Warmed39 U.vm ∧ U.heap = h) (fun _ _ _ _ _ => True) (fun _ U o U' => ∃ v L, o = .returned v ∧ Q v U'.heap L ∧ ReturnedEndW U o U' L rm.cells rm.slots)) (hsize : ls.size = c.maxLocals) (argsL rest : List Value) (has : as' = (.ref a :: argsL).toArray) (hlen : ∀ sig, parseMethodDescriptor y.desc = some sig → argsL.length = sig.parameters.length) (hstack : st = argsL.reverse ++ .ref a :: rest) (hW : (rest.map fun v => v.category).sum ≤ W) (hf : rm.frames + 1 ≤ R.frames) (hl : W + (maxL + 11) + rm.locals ≤ R.locals) (hce : cells + rm.cells ≤ R.cells) (hsl : slots + rm.slots ≤ R.slots) (hp : pc + 3 = pc') (hd : decode c.code pc = .ok (.invokevirtual index, 3)) (k : ∀ T' v L, Stand p l e R (s.setVm T'.vm) m args below meth c T' (locs ++ L) (cells + rm.cells) (slots + rm.slots) → s.Since T'.vm T'.heap.size → Z.Warmed39 (s.setVm T'.vm).vm → (s.setVm T'.vm).vm.findClass own = some m.cls → Q v T'.heap L → Ends p.tables e below (T'.setTop (mkF m pc' ls (v.toList ++ rest))) P) : Ends p.tables e below (T.setTop (mkF m pc ls st)) P := by
  subst hp has hstack
  obtain ⟨cq, kq, qa, qb, qc⟩ := isOf hZ eT E
  obtain ⟨v, _, ⟨T', _, _, _⟩, -, X', S', g', ⟨L, hQ, e1, e2, e3⟩, s'⟩ := X.virtualBackS hx (y := y) (z := y) hown (mvT hZ w1) (mvT hZ w2) (notFace_of_selects (args := #[]) (mvT hZ w5)) (mvT hZ w5) (mvT hZ w6) hy (backOfS (W := W) hM hZ w4 w3 hf hl) qa qc (g := mkF m pc ls (argsL.reverse ++ .ref a :: rest)) rfl hsize (Steps.refl _) (argsL := argsL) (rest := rest) hlen rfl (by show 2 * 0 + _ ≤ _; omega) hd (fun _ _ => ⟨rfl, eT, hce, hsl⟩)
  dsimp only [Pt.U, Pt.locs, Pt.cells, Pt.slots] at X' S' g' e1 e2 e3 s' hQ
  subst e1 e2 e3
  obtain ⟨X2, S2, Z2, o2⟩ := rebS hS (show _ ≤ T.heap.size by rw [eT]; exact hk) X' S' g' hZ hown
  exact own_via (fun t_ k_ => s'.trans k_) (k T' v L X2 S2 Z2 o2 hQ)
theorem s_ldcS {vm0 : Vm} (X : Stand p l e R (s.setVm vm0) m args below meth c T locs cells slots) (hx : p.tables.exec = Jvm.exec) (hZ : Z.Warmed39 (s.setVm vm0).vm) {k0 : Nat} (hS : s.Since vm0 k0) (hk : k0 ≤ h.size) {own : String} {index : Nat} (hown : (s.setVm vm0).vm.findClass own = some m.cls) {text : String} (w : (Jvm.Cond.stringLink own index text).before a0 Z = true) (wS : ∀ a ∈ Bundle.stringAtoms, a.before a0 Z = true) (eT : T.heap = h) (hd : decode c.code pc = .ok (.ldc index, 2)) {n : Nat} (hn : 4 * text.toList.length ≤ n) (hbig : n ≤ 536870912) (hc : cells + 2 ≤ R.cells) (hl : slots + (n + 4) ≤ R.slots) (hp : pc + 2 = pc') (k : ∀ a T' h' k1, Stand p l e R (s.setVm T'.vm) m args below meth c T' locs (cells + 2) (slots + (n + 4)) → T'.heap = h' → Ext h h' → s.Since T'.vm k1 → k1 ≤ h'.size → Z.Warmed39 (s.setVm T'.vm).vm → (s.setVm T'.vm).vm.findClass own = some m.cls → Ends p.tables e below (T'.setTop (mkF m pc' ls (.ref a :: st))) P) : Ends p.tables e below (T.setTop (mkF m pc ls st)) P := by
  subst hp
  obtain ⟨a, T', h', k1, X', e', E', S', g', Z', o', s'⟩ := ldcS X hx hZ hown w wS eT hS hk (g := mkF m pc ls st) rfl hd hn hbig hc hl
  exact own_via s' (k a T' h' k1 X' e' E' S' g' Z' o')
theorem s_ldcSW {vm0 : Vm} (X : Stand p l e R (s.setVm vm0) m args below meth c T locs cells slots) (hx : p.tables.exec = Jvm.exec) (hZ : Z.Warmed39 (s.setVm vm0).vm) {k0 : Nat} (hS : s.Since vm0 k0) (hk : k0 ≤ h.size) {own : String} {index : Nat} (hown : (s.setVm vm0).vm.findClass own = some m.cls) {text : String} (w : (Jvm.Cond.stringLink own index text).before a0 Z = true) (wS : ∀ a ∈ Bundle.stringAtoms, a.before a0 Z = true) (eT : T.heap = h) (hd : decode c.code pc = .ok (.ldc_w index, 3)) {n : Nat} (hn : 4 * text.toList.length ≤ n) (hbig : n ≤ 536870912) (hc : cells + 2 ≤ R.cells) (hl : slots + (n + 4) ≤ R.slots) (hp : pc + 3 = pc') (k : ∀ a T' h' k1, Stand p l e R (s.setVm T'.vm) m args below meth c T' locs (cells + 2) (slots + (n + 4)) → T'.heap = h' → Ext h h' → s.Since T'.vm k1 → k1 ≤ h'.size → Z.Warmed39 (s.setVm T'.vm).vm → (s.setVm T'.vm).vm.findClass own = some m.cls → Ends p.tables e below (T'.setTop (mkF m pc' ls (.ref a :: st))) P) : Ends p.tables e below (T.setTop (mkF m pc ls st)) P := by
  subst hp
  obtain ⟨a, T', h', k1, X', e', E', S', g', Z', o', s'⟩ := ldcSW X hx hZ hown w wS eT hS hk (g := mkF m pc ls st) rfl hd hn hbig hc hl
  exact own_via s' (k a T' h' k1 X' e' E' S' g' Z' o')
end OwnLaws
section OwnHeld
variable {p : Program} {l : Launch} {e : Env} {R : Room} {s : State} {m : MethodId} {args : Array Value} {below : List Frame} {meth : Method} {c : Code} {T : State} {locs : List Loc} {cells slots : Nat} {Z : State} {a0 : Array Value} {EL : List (String × Nat)} {h : Heap} {vm0 : Vm} {P : State → Outcome → Prop} {pc pc' : Nat} {ls : Array Slot} {st : List Value} {sf : List Addr}
theorem own_safe0 {vm : Vm} : ∀ x ∈ ([] : List Addr), x < h.size ∧ Safe Z EL vm h x := fun _ q => nomatch q
theorem own_safeS {vm : Vm} {x : Addr} {L : List Addr} (a : x < h.size) (b : Safe Z EL vm h x) (r : ∀ y ∈ L, y < h.size ∧ Safe Z EL vm h y) : ∀ y ∈ x :: L, y < h.size ∧ Safe Z EL vm h y := fun y q => by
  rcases List.mem_cons.mp q with rfl | q
  · exact ⟨a, b⟩
  · exact r y q
theorem own_backH {y : MethodName} {bytes : ByteArray} {maxL : Nat} {ret : Option FieldType} {rm : Room} {W : Nat} {as' : Array Value} {Q : Option Value → Heap → List Loc → Prop} {len : Nat} (hM : MetFree l y (head1 [Jvm.Cond.code y bytes maxL ret] rm) (fun a U => a = as' ∧ Z.Warmed39 U.vm ∧ U.heap = h ∧ CHv Z EL U.vm h ∧ ∀ x ∈ sf, Safe Z EL U.vm h x) (fun _ _ _ _ _ => True) (fun _ U o U' => ∃ v L, o = .returned v ∧ Q v U'.heap L ∧ CHr Z EL U.vm U.heap U'.vm U'.heap ∧ ReturnedEndW U o U' L rm.cells rm.slots)) (hZ : Z.Warmed39 vm0) (wc : (Jvm.Cond.code y bytes maxL ret).before a0 Z = true) (wz : (Jvm.Cond.initialized y.cls).before a0 Z = true) (hf : rm.frames + 1 ≤ R.frames) (hl : W + (maxL + 11) + rm.locals ≤ R.locals) (hEL : EW Z a0 EL) (H : CHv Z EL vm0 h) (hsf : ∀ x ∈ sf, x < h.size ∧ Safe Z EL vm0 h x) :
    BackS l R p e below (s.setVm vm0) args y len W (fun A a => a = as' ∧ A.U.heap = h ∧ A.cells + rm.cells ≤ R.cells ∧ A.slots + rm.slots ≤ R.slots)
      (fun A _ v B => ∃ L, Q v B.U.heap L ∧ B.locs = A.locs ++ L ∧ B.cells = A.cells + rm.cells ∧ B.slots = A.slots + rm.slots ∧ CHr Z EL vm0 h B.U.vm B.U.heap) := by
  refine BackS.of_freeW (bytes := bytes) (maxL := maxL) (ret := ret) (E := fun _ U o t L k n => k = rm.cells ∧ n = rm.slots ∧ (∃ v, o = .returned v ∧ Q v t.heap L) ∧ CHr Z EL U.vm U.heap t.vm t.heap) hM hf hl ?_ ?_ ?_ ?_ ?_
  · intro m meth c A a Y hp
    have hU : Z.Warmed39 A.U.vm := wtrans (s := s.setVm vm0) hZ Y.warmed
    refine ⟨?_, mv hU wc, mv hU wz, hp.2.2.1, hp.2.2.2⟩
    show (Jvm.Cond.and _ .tt).before a A.U = true
    rw [Cond.before_and, mv hU wc]
    rfl
  · intro m meth c A a g mk Y hp
    have hR := CHv.at Y hZ hEL H
    exact ⟨hp.1, wtrans (s := s.setVm vm0) hZ Y.warmed, hp.2.1, hR.1, fun x hx => hR.safe (hsf x hx).1 (hsf x hx).2⟩
  · intro m meth c A a g mk Y hp
    trivial
  · intro a U o t q
    obtain ⟨v, L, h1, h2, h3, h4⟩ := q
    exact ⟨L, _, _, h4, rfl, rfl, ⟨v, h1, h2⟩, h3⟩
  · intro m meth c A a g mk v t L k n Y hp _ _ q
    obtain ⟨e1, e2, ⟨v', e3, e4⟩, e5⟩ := q
    cases e3
    subst e1 e2
    refine ⟨L, e4, rfl, rfl, rfl, (CHv.at Y hZ hEL H).trans ?_⟩
    rw [← hp.2.1]
    exact e5
theorem s_callSH (X : Stand p l e R (s.setVm vm0) m args below meth c T locs cells slots) (hx : p.tables.exec = Jvm.exec) (hZ : Z.Warmed39 (s.setVm vm0).vm) {k0 : Nat} (hS : s.Since vm0 k0) (hk : k0 ≤ h.size) (hEL : EW Z a0 EL) (HC : CHv Z EL vm0 h) {y : MethodName} {bytes : ByteArray} {maxL : Nat} {ret : Option FieldType} {rm : Room} {W : Nat} {as' : Array Value} {Q : Option Value → Heap → List Loc → Prop} {own : String} {index : Nat} (hown : (s.setVm vm0).vm.findClass own = some m.cls) (w1 : (Jvm.Cond.methodLink own index y).before a0 Z = true) (w2 : (Jvm.Cond.static y).before a0 Z = true) (w3 : (Jvm.Cond.initialized y.cls).before a0 Z = true) (w4 : (Jvm.Cond.code y bytes maxL ret).before a0 Z = true) (hy : y.cls ≠ "java/lang/invoke/MethodHandle" ∧ y.cls ≠ "java/lang/invoke/VarHandle") (eT : T.heap = h) (hM : MetFree l y (head1 [Jvm.Cond.code y bytes maxL ret] rm) (fun a U => a = as' ∧ Z.Warmed39 U.vm ∧ U.heap = h ∧ CHv Z EL U.vm h ∧ ∀ x ∈ sf, Safe Z EL U.vm h x) (fun _ _ _ _ _ => True) (fun _ U o U' => ∃ v L, o = .returned v ∧ Q v U'.heap L ∧ CHr Z EL U.vm U.heap U'.vm U'.heap ∧ ReturnedEndW U o U' L rm.cells rm.slots)) (hsf : ∀ x ∈ sf, x < h.size ∧ Safe Z EL vm0 h x) (hsize : ls.size = c.maxLocals) (argsL rest : List Value) (has : as' = argsL.toArray) (hlen : ∀ sig, parseMethodDescriptor y.desc = some sig → argsL.length = sig.parameters.length) (hstack : st = argsL.reverse ++ rest) (hW : (rest.map fun v => v.category).sum ≤ W) (hf : rm.frames + 1 ≤ R.frames) (hl : W + (maxL + 11) + rm.locals ≤ R.locals) (hce : cells + rm.cells ≤ R.cells) (hsl : slots + rm.slots ≤ R.slots) (hp : pc + 3 = pc') (hd : decode c.code pc = .ok (.invokestatic index, 3)) (k : ∀ T' v L, Stand p l e R (s.setVm T'.vm) m args below meth c T' (locs ++ L) (cells + rm.cells) (slots + rm.slots) → s.Since T'.vm T'.heap.size → Z.Warmed39 (s.setVm T'.vm).vm → (s.setVm T'.vm).vm.findClass own = some m.cls → CHr Z EL vm0 h T'.vm T'.heap → Q v T'.heap L → Ends p.tables e below (T'.setTop (mkF m pc' ls (v.toList ++ rest))) P) : Ends p.tables e below (T.setTop (mkF m pc ls st)) P := by
  subst hp has hstack
  obtain ⟨v, _, ⟨T', _, _, _⟩, -, X', S', g', ⟨L, hQ, e1, e2, e3, e4⟩, s'⟩ := callSS X hx (y := y) hown (mvT hZ w1) (mvT hZ w2) (mvT hZ w3) (mvT hZ w4) hy (own_backH (W := W) hM hZ w4 w3 hf hl hEL HC hsf) (g := mkF m pc ls (argsL.reverse ++ rest)) rfl hsize (argsL := argsL) (rest := rest) hlen rfl (by show 2 * 0 + _ ≤ _; omega) hd (fun _ _ => ⟨rfl, eT, hce, hsl⟩)
  dsimp only [Pt.U, Pt.locs, Pt.cells, Pt.slots] at X' S' g' e1 e2 e3 e4 s' hQ
  subst e1 e2 e3
  obtain ⟨X2, S2, Z2, o2⟩ := rebS hS (show _ ≤ T.heap.size by rw [eT]; exact hk) X' S' g' hZ hown
  exact own_via (fun t_ k_ => s'.trans k_) (k T' v L X2 S2 Z2 o2 e4 hQ)
theorem s_callIH (X : Stand p l e R (s.setVm vm0) m args below meth c T locs cells slots) (hx : p.tables.exec = Jvm.exec) (hZ : Z.Warmed39 (s.setVm vm0).vm) {k0 : Nat} (hS : s.Since vm0 k0) (hk : k0 ≤ h.size) (hEL : EW Z a0 EL) (HC : CHv Z EL vm0 h) {y : MethodName} {bytes : ByteArray} {maxL : Nat} {rm : Room} {W : Nat} {as' : Array Value} {Q : Option Value → Heap → List Loc → Prop} {own : String} {index : Nat} (hown : (s.setVm vm0).vm.findClass own = some m.cls) (hy1 : y.name = "<init>") (w1 : (Jvm.Cond.methodLink own index y).before a0 Z = true) (w2 : (Jvm.Cond.instanceMethod y).before a0 Z = true) (w3 : (Jvm.Cond.initialized y.cls).before a0 Z = true) (w4 : (Jvm.Cond.code y bytes maxL none).before a0 Z = true) (hy : y.cls ≠ "java/lang/invoke/MethodHandle" ∧ y.cls ≠ "java/lang/invoke/VarHandle") (eT : T.heap = h) (hM : MetFree l y (head1 [Jvm.Cond.code y bytes maxL none] rm) (fun a U => a = as' ∧ Z.Warmed39 U.vm ∧ U.heap = h ∧ CHv Z EL U.vm h ∧ ∀ x ∈ sf, Safe Z EL U.vm h x) (fun _ _ _ _ _ => True) (fun _ U o U' => ∃ v L, o = .returned v ∧ Q v U'.heap L ∧ CHr Z EL U.vm U.heap U'.vm U'.heap ∧ ReturnedEndW U o U' L rm.cells rm.slots)) (hsf : ∀ x ∈ sf, x < h.size ∧ Safe Z EL vm0 h x) (a : Addr) (hsize : ls.size = c.maxLocals) (argsL rest : List Value) (has : as' = (.ref a :: argsL).toArray) (hlen : ∀ sig, parseMethodDescriptor y.desc = some sig → argsL.length = sig.parameters.length) (hstack : st = argsL.reverse ++ .ref a :: rest) (hW : (rest.map fun v => v.category).sum ≤ W) (hf : rm.frames + 1 ≤ R.frames) (hl : W + (maxL + 11) + rm.locals ≤ R.locals) (hce : cells + rm.cells ≤ R.cells) (hsl : slots + rm.slots ≤ R.slots) (hp : pc + 3 = pc') (hd : decode c.code pc = .ok (.invokespecial index, 3)) (k : ∀ T' v L, Stand p l e R (s.setVm T'.vm) m args below meth c T' (locs ++ L) (cells + rm.cells) (slots + rm.slots) → s.Since T'.vm T'.heap.size → Z.Warmed39 (s.setVm T'.vm).vm → (s.setVm T'.vm).vm.findClass own = some m.cls → CHr Z EL vm0 h T'.vm T'.heap → Q v T'.heap L → Ends p.tables e below (T'.setTop (mkF m pc' ls (v.toList ++ rest))) P) : Ends p.tables e below (T.setTop (mkF m pc ls st)) P := by
  subst hp has hstack
  obtain ⟨v, _, ⟨T', _, _, _⟩, -, X', S', g', ⟨L, hQ, e1, e2, e3, e4⟩, s'⟩ := X.specialBackS hx (y := y) hy1 hown (mvT hZ w1) (mvT hZ w2) (mvT hZ w4) hy (own_backH (W := W) hM hZ w4 w3 hf hl hEL HC hsf) (g := mkF m pc ls (argsL.reverse ++ .ref a :: rest)) rfl hsize (Steps.refl _) (a := a) (argsL := argsL) (rest := rest) hlen rfl (by show 2 * 0 + _ ≤ _; omega) hd (fun _ _ => ⟨rfl, eT, hce, hsl⟩)
  dsimp only [Pt.U, Pt.locs, Pt.cells, Pt.slots] at X' S' g' e1 e2 e3 e4 s' hQ
  subst e1 e2 e3
  obtain ⟨X2, S2, Z2, o2⟩ := rebS hS (show _ ≤ T.heap.size by rw [eT]; exact hk) X' S' g' hZ hown
  exact own_via (fun t_ k_ => s'.trans k_) (k T' v L X2 S2 Z2 o2 e4 hQ)
theorem s_ldcCH (X : Stand p l e R (s.setVm vm0) m args below meth c T locs cells slots) (hx : p.tables.exec = Jvm.exec) (hZ : Z.Warmed39 (s.setVm vm0).vm) {k0 : Nat} (hS : s.Since vm0 k0) (hk : k0 ≤ h.size) (hEL : EW Z a0 EL) (HC : CHv Z EL vm0 h) {own : String} {index : Nat} (hown : (s.setVm vm0).vm.findClass own = some m.cls) {text : String} (w : (Jvm.Cond.stringLink own index text).before a0 Z = true) (wS : ∀ a ∈ Bundle.stringAtoms, a.before a0 Z = true) (eT : T.heap = h) (hmem : (own, index) ∈ EL) {vs : List Value} {z : Int32} (ht : (∀ c ∈ text.toList, c.toNat < 256) ∧ text.toList.map (fun c => Value.int (Jvm.Lit.byteI c.toNat.toUInt16)) = vs) (hz : ¬ z < 0) (hlz : z.toNatClampNeg = vs.length) (hd : decode c.code pc = .ok (.ldc index, 2)) {n : Nat} (hn : 4 * text.toList.length ≤ n) (hbig : n ≤ 536870912) (hc : cells + 2 ≤ R.cells) (hl : slots + (n + 4) ≤ R.slots) (hp : pc + 2 = pc') (k : ∀ a b kb T' h' k1, Stand p l e R (s.setVm T'.vm) m args below meth c T' locs (cells + 2) (slots + (n + 4)) → T'.heap = h' → Ext h h' → s.Since T'.vm k1 → k1 ≤ h'.size → Z.Warmed39 (s.setVm T'.vm).vm → (s.setVm T'.vm).vm.findClass own = some m.cls → CHr Z EL vm0 h T'.vm h' → Exa Z h' a "java/lang/String" → Fld Z h' a "java/lang/String" "coder" "B" (.int 0) → Fld Z h' a "java/lang/String" "value" "[B" (.ref b) → Arv Z h' b kb .byte z vs (.int 0) → (∀ x, Safe Z EL T'.vm h' x → x ≠ a ∧ x ≠ b) → Ends p.tables e below (T'.setTop (mkF m pc' ls (.ref a :: st))) P) : Ends p.tables e below (T.setTop (mkF m pc ls st)) P := by
  subst hp
  obtain ⟨a, T', h', k1, b, kb, X', e', E', S', g', Z', o', E1, F1, F2, V1, -, -, hr, -, hs, s'⟩ := ldcCH X hx hZ hown w wS eT hS hk hEL hmem HC ht hz hlz (g := mkF m pc ls st) rfl hd hn hbig hc hl
  exact own_via s' (k a b kb T' h' k1 X' e' E' S' g' Z' o' hr E1 F1 F2 V1 hs)
theorem s_ldcOH (X : Stand p l e R (s.setVm vm0) m args below meth c T locs cells slots) (hx : p.tables.exec = Jvm.exec) (hZ : Z.Warmed39 (s.setVm vm0).vm) {k0 : Nat} (hS : s.Since vm0 k0) (hk : k0 ≤ h.size) (hEL : EW Z a0 EL) (HC : CHv Z EL vm0 h) {own : String} {index : Nat} (hown : (s.setVm vm0).vm.findClass own = some m.cls) {text : String} (w : (Jvm.Cond.stringLink own index text).before a0 Z = true) (wS : ∀ a ∈ Bundle.stringAtoms, a.before a0 Z = true) (eT : T.heap = h) (hd : decode c.code pc = .ok (.ldc index, 2)) {n : Nat} (hn : 4 * text.toList.length ≤ n) (hbig : n ≤ 536870912) (hc : cells + 2 ≤ R.cells) (hl : slots + (n + 4) ≤ R.slots) (hp : pc + 2 = pc') (k : ∀ a T' h' k1, Stand p l e R (s.setVm T'.vm) m args below meth c T' locs (cells + 2) (slots + (n + 4)) → T'.heap = h' → Ext h h' → s.Since T'.vm k1 → k1 ≤ h'.size → Z.Warmed39 (s.setVm T'.vm).vm → (s.setVm T'.vm).vm.findClass own = some m.cls → CHr Z EL vm0 h T'.vm h' → Ends p.tables e below (T'.setTop (mkF m pc' ls (.ref a :: st))) P) : Ends p.tables e below (T.setTop (mkF m pc ls st)) P := by
  subst hp
  obtain ⟨a, T', h', k1, X', e', E', S', g', Z', o', hr, -, s'⟩ := ldcOH X hx hZ hown w wS eT hS hk hEL HC (g := mkF m pc ls st) rfl hd hn hbig hc hl
  exact own_via s' (k a T' h' k1 X' e' E' S' g' Z' o' hr)
end OwnHeld

theorem own_wS {Z : State} {a0 : Array Value} (hw : ∀ d ∈ tables_1, d.before a0 Z = true) : ∀ a ∈ Bundle.stringAtoms, a.before a0 Z = true := by
  intro a ha
  simp only [Bundle.stringAtoms, List.mem_cons, List.not_mem_nil, or_false] at ha
  rcases ha with rfl | rfl | rfl | rfl | rfl | rfl | rfl
  · exact (hw _ (List.mem_of_getElem? (i := 9) rfl))
  · exact (hw _ (List.mem_of_getElem? (i := 8) rfl))
  · exact (hw _ (List.mem_of_getElem? (i := 22) rfl))
  · exact (hw _ (List.mem_of_getElem? (i := 23) rfl))
  · exact (hw _ (List.mem_of_getElem? (i := 24) rfl))
  · exact (hw _ (List.mem_of_getElem? (i := 25) rfl))
  · exact (hw _ (List.mem_of_getElem? (i := 26) rfl))
theorem own_EW {Z : State} {a0 : Array Value} (hw : ∀ d ∈ tables_1, d.before a0 Z = true) : EW Z a0 consts_1 := (EW.cons (hw _ (List.mem_of_getElem? (i := 33) rfl)) (by decide) (EW.cons (hw _ (List.mem_of_getElem? (i := 41) rfl)) (by decide) (EW.cons (hw _ (List.mem_of_getElem? (i := 44) rfl)) (by decide) (EW.cons (hw _ (List.mem_of_getElem? (i := 47) rfl)) (by decide) (EW.cons (hw _ (List.mem_of_getElem? (i := 21) rfl)) (by decide) EW.nil)))))
theorem own_ch (x : Int32) : nar .char ((x &&& (255 : Int32)).toUInt32.toUInt16.toUInt32.toInt32) = x &&& (255 : Int32) := by
  rw [i2c_mask]
  exact i2c_mask x
theorem own_le (x : Int32) : ¬ (255 : Int32) < nar .char ((x &&& (255 : Int32)).toUInt32.toUInt16.toUInt32.toInt32) := by
  rw [own_ch, Int32.lt_iff_toInt_lt]
  have h := c_and x (255 : Int32) (by decide)
  have e : (255 : Int32).toInt = 255 := by decide
  omega
def own_bb (x : Int32) : Int32 := nar .byte ((nar .char ((x &&& (255 : Int32)).toUInt32.toUInt16.toUInt32.toInt32)).toInt8.toInt32)
theorem own_bb_ (x : Int32) : own_bb x = (x &&& (255 : Int32)).toInt8.toInt32 := by
  unfold own_bb
  rw [own_ch]
  show ((x &&& (255 : Int32)).toInt8.toInt32).toInt8.toInt32 = _
  rw [Int8.toInt8_toInt32]
theorem own_bbi {x y : Int32} (h : own_bb x = own_bb y) : x &&& (255 : Int32) = y &&& (255 : Int32) := by
  rw [own_bb_, own_bb_] at h
  have h1 := c_i2b (x &&& (255 : Int32))
  have h2 := c_i2b (y &&& (255 : Int32))
  have r1 := c_and x (255 : Int32) (by decide)
  have r2 := c_and y (255 : Int32) (by decide)
  have e : (255 : Int32).toInt = 255 := by decide
  rw [h] at h1
  exact Int32.toInt_inj.mp (by omega)
def own_t (x : Int32) : Int32 := (((x.toUInt32 >>> ((16 : Int32) &&& 31).toUInt32).toInt32) &&& (3 : Int32))
def own_hi (x : Int32) : Int32 := (x.toUInt32 >>> ((8 : Int32) &&& 31).toUInt32).toInt32
def own_len (x : Int32) : Int32 := if own_t x = 0 then 0 else if own_t x = 1 then 1 else 2
def own_tx (x : Int32) : List Value := [.int (own_bb x), .int (own_bb (own_hi x))]
def own_cn (x : Int32) : Int32 := if own_t x = 0 then 0 else if own_t x = 1 then ((65536 : Int32) ||| (x &&& (255 : Int32))) else ((131072 : Int32) ||| (x &&& (65535 : Int32)))
theorem own_txN {Z : State} {h : Heap} {b : Addr} {k : ClassId} {z x : Int32} {us : List Value} (q : own_len x = z) (e : us = (own_tx x).take z.toNatClampNeg) (F : Arv Z h b k .byte z us (.int (0 : Int32))) : Arv Z h b k .byte (own_len x) (own_tx x) (.int (0 : Int32)) := by
  subst q e
  obtain ⟨c, A, q, S, M, H, G⟩ := F
  have key : ∀ i, i < c.slots.size → ((own_tx x).take (own_len x).toNatClampNeg).getD i (.int (0 : Int32)) = (own_tx x).getD i (.int (0 : Int32)) := fun i hi => by
    rw [S] at hi
    rw [List.getD_eq_getElem?_getD, List.getD_eq_getElem?_getD, List.getElem?_take_of_lt hi]
  exact ⟨c, A, q, S, M, fun i hi => by rw [← key i hi]; exact H i hi, fun i hi => by rw [← key i hi]; exact G i hi⟩
theorem own_inj {x y : Int32} (h : x.toUInt32.toNat = y.toUInt32.toNat) : x = y := by
  obtain ⟨x⟩ := x
  obtain ⟨y⟩ := y
  cases UInt32.toNat_inj.mp h
  rfl
theorem own_m8 (x : Int32) : (x &&& (255 : Int32)).toUInt32.toNat = x.toUInt32.toNat % 256 := by
  have h255 : (Int32.toUInt32 255).toNat = 2 ^ 8 - 1 := by decide
  simp only [Int32.toUInt32_and, UInt32.toNat_and, h255, Nat.and_two_pow_sub_one_eq_mod]
theorem own_m16 (x : Int32) : (x &&& (65535 : Int32)).toUInt32.toNat = x.toUInt32.toNat % 65536 := by
  have h255 : (Int32.toUInt32 65535).toNat = 2 ^ 16 - 1 := by decide
  simp only [Int32.toUInt32_and, UInt32.toNat_and, h255, Nat.and_two_pow_sub_one_eq_mod]
theorem own_hiN (x : Int32) : (own_hi x).toUInt32.toNat = x.toUInt32.toNat / 256 := by
  have h : (((8 : Int32) &&& 31).toUInt32).toNat % 32 = 8 := by decide
  show (x.toUInt32 >>> ((8 : Int32) &&& 31).toUInt32).toNat = _
  rw [UInt32.toNat_shiftRight, h, Nat.shiftRight_eq_div_pow]
theorem own_cA (x : Int32) : ((65536 : Int32) ||| (x &&& (255 : Int32))).toUInt32.toNat = 65536 + x.toUInt32.toNat % 256 := by
  have h : (Int32.toUInt32 65536).toNat = 2 ^ 16 := by decide
  rw [Int32.toUInt32_or, UInt32.toNat_or, h, own_m8]
  exact (Nat.two_pow_add_eq_or_of_lt (i := 16) (show x.toUInt32.toNat % 256 < 2 ^ 16 by omega) 1).symm
theorem own_cB (x : Int32) : ((131072 : Int32) ||| (x &&& (65535 : Int32))).toUInt32.toNat = 131072 + x.toUInt32.toNat % 65536 := by
  have h : (Int32.toUInt32 131072).toNat = 2 ^ 17 := by decide
  rw [Int32.toUInt32_or, UInt32.toNat_or, h, own_m16]
  exact (Nat.two_pow_add_eq_or_of_lt (i := 17) (show x.toUInt32.toNat % 65536 < 2 ^ 17 by omega) 1).symm
theorem own_d12_0 : decode jdk_52_method_21_code 0 = .ok (.iconst 0, 1) := by decide +kernel
theorem own_d12_1 : decode jdk_52_method_21_code 1 = .ok (.istore 5, 2) := by decide +kernel
theorem own_d12_3 : decode jdk_52_method_21_code 3 = .ok (.iload 5, 2) := by decide +kernel
theorem own_d12_5 : decode jdk_52_method_21_code 5 = .ok (.iload 4, 2) := by decide +kernel
theorem own_d12_7 : decode jdk_52_method_21_code 7 = .ok (.if_icmp .ge 37, 3) := by decide +kernel
theorem own_d12_10 : decode jdk_52_method_21_code 10 = .ok (.aload_n 0, 1) := by decide +kernel
theorem own_d12_11 : decode jdk_52_method_21_code 11 = .ok (.iload_n 1, 1) := by decide +kernel
theorem own_d12_12 : decode jdk_52_method_21_code 12 = .ok (.caload, 1) := by decide +kernel
theorem own_d12_13 : decode jdk_52_method_21_code 13 = .ok (.istore 6, 2) := by decide +kernel
theorem own_d12_15 : decode jdk_52_method_21_code 15 = .ok (.iload 6, 2) := by decide +kernel
theorem own_d12_17 : decode jdk_52_method_21_code 17 = .ok (.sipush 255, 3) := by decide +kernel
theorem own_d12_20 : decode jdk_52_method_21_code 20 = .ok (.if_icmp .le 6, 3) := by decide +kernel
theorem own_d12_26 : decode jdk_52_method_21_code 26 = .ok (.aload_n 2, 1) := by decide +kernel
theorem own_d12_27 : decode jdk_52_method_21_code 27 = .ok (.iload_n 3, 1) := by decide +kernel
theorem own_d12_28 : decode jdk_52_method_21_code 28 = .ok (.iload 6, 2) := by decide +kernel
theorem own_d12_30 : decode jdk_52_method_21_code 30 = .ok (.i2b, 1) := by decide +kernel
theorem own_d12_31 : decode jdk_52_method_21_code 31 = .ok (.bastore, 1) := by decide +kernel
theorem own_d12_32 : decode jdk_52_method_21_code 32 = .ok (.iinc 1 1, 3) := by decide +kernel
theorem own_d12_35 : decode jdk_52_method_21_code 35 = .ok (.iinc 3 1, 3) := by decide +kernel
theorem own_d12_38 : decode jdk_52_method_21_code 38 = .ok (.iinc 5 1, 3) := by decide +kernel
theorem own_d12_41 : decode jdk_52_method_21_code 41 = .ok (.goto (-38), 3) := by decide +kernel
theorem own_d12_44 : decode jdk_52_method_21_code 44 = .ok (.iload 4, 2) := by decide +kernel
theorem own_d12_46 : decode jdk_52_method_21_code 46 = .ok (.ireturn, 1) := by decide +kernel
theorem own_pn0 : plainName "java/lang/StringUTF16" = true := by first | (simp [plainName, overriddenIn]; done) | decide +kernel
theorem own_cm5_1_ef (m : MethodId) (ca : Addr) (b : Addr) (kc : ClassId) (k : ClassId) (x0 : Int32) : entryFrame m #[(.ref ca), (.int (0 : Int32)), (.ref b), (.int (0 : Int32)), (.int (1 : Int32))] 7 = mkF m 0 #[.val (.ref ca), .val (.int (0 : Int32)), .val (.ref b), .val (.int (0 : Int32)), .val (.int (1 : Int32)), .unset, .unset] [] := by first | (simp [entryFrame, mkF, argsToLocals, Value.category]; done) | rfl
def own_cm5_1_Q (Z : State) (ca : Addr) (b : Addr) (kc : ClassId) (k : ClassId) (x0 : Int32) (h0 : Heap) (n0 : Nat) (v : Option Value) (h : Heap) (L : List Loc) : Prop := v = some (.int (1 : Int32)) ∧ Fr n0 L ∧ Keep h0 h [b] ∧ Arv Z h b k .byte (1 : Int32) [(.int (nar .byte (x0.toInt8.toInt32)))] (.int (0 : Int32))
set_option maxRecDepth 65536 in
set_option maxHeartbeats 40000000 in
theorem own_cm5_1 (l : Launch) (Z : State) (a0 : Array Value) (hw : ∀ d ∈ tables_1, d.before a0 Z = true) (ws : List Jvm.Cond) (ca : Addr) (b : Addr) (kc : ClassId) (k : ClassId) (x0 : Int32) (h0 : Heap) (n0 : Nat) (Z0 : n0 ≤ h0.size) (V_c : Arv Z h0 ca kc .char (1 : Int32) [(.int x0)] (.int (0 : Int32))) (V_b : Arv Z h0 b k .byte (1 : Int32) [(.int (0 : Int32))] (.int (0 : Int32))) (ne_cb : ca ≠ b) (g_b : n0 ≤ b) (le_x0 : ¬ (255 : Int32) < x0) :
    MetFree l (⟨"java/lang/StringUTF16", "compress", "([CI[BII)I"⟩ : MethodName) (head1 (Jvm.Cond.code (⟨"java/lang/StringUTF16", "compress", "([CI[BII)I"⟩ : MethodName) jdk_52_method_21_code 7 (some .int) :: ws) ({ frames := 0, cells := 0, slots := 0, locals := 0 } : Room)) (fun as_ U => as_ = #[(.ref ca), (.int (0 : Int32)), (.ref b), (.int (0 : Int32)), (.int (1 : Int32))] ∧ Z.Warmed39 U.vm ∧ U.heap = h0) (fun _ _ _ _ _ => True) (fun _ U_ o_ V_ => ∃ v_ L_, o_ = .returned v_ ∧ own_cm5_1_Q Z ca b kc k x0 h0 n0 v_ V_.heap L_ ∧ FrameEnd U_ o_ V_ L_ ({ frames := 0, cells := 0, slots := 0, locals := 0 } : Room).cells ({ frames := 0, cells := 0, slots := 0, locals := 0 } : Room).slots) := by
  refine MetFree.of_bodySF (plainFor_of_name own_pn0) hisR ?_
  intro p e s m args below meth c s₁ Bd hml0 hP hK
  obtain ⟨rfl, hZ, hh⟩ := hP
  have hx := Bd.exec
  have hby := Bd.bytes
  have hml : c.maxLocals = 7 := hml0
  have hown : s.vm.findClass "java/lang/StringUTF16" = some m.cls := findClass_of_methodNamed Bd.named
  have hnm := (name_of_methodNamed Bd.named Bd.method).1
  have X0 : Stand p l e ({ frames := 0, cells := 0, slots := 0, locals := 0 } : Room) s m #[(.ref ca), (.int (0 : Int32)), (.ref b), (.int (0 : Int32)), (.int (1 : Int32))] below meth c s₁ [] 0 0 := Stand.of_body Bd
  have e0 : s₁.heap = h0 := by rw [← hh, Bd.state]; rfl
  have N0 := Fr.nil n0
  refine own_begin (own_cm5_1_ef m ca b kc k x0) ?_
  show Ends p.tables e below (s₁.setTop (mkF m 0 #[.val (.ref ca), .val (.int (0 : Int32)), .val (.ref b), .val (.int (0 : Int32)), .val (.int (1 : Int32)), .unset, .unset] [])) _
  have Kr0 : Keep h0 h0 [b] := Keep.refl h0 _
  refine s_iconst (pc' := 1) X0.here hx (v := (0 : Int32)) (hb hby own_d12_0) rfl rfl ?_
  refine s_istore (pc' := 3) X0.here hx (l' := #[.val (.ref ca), .val (.int (0 : Int32)), .val (.ref b), .val (.int (0 : Int32)), .val (.int (1 : Int32)), .val (.int (0 : Int32)), .unset]) (hb hby own_d12_1) rfl rfl ?_
  refine s_iload (pc' := 5) X0.here hx (hb hby own_d12_3) rfl rfl ?_
  refine s_iload (pc' := 7) X0.here hx (hb hby own_d12_5) rfl rfl ?_
  have hk1 : (0 : Int32) < (1 : Int32) := by decide
  refine s_icmpNo (pc' := 10) X0.here hx (hb hby own_d12_7) (tlt hk1).2.1 rfl ?_
  refine s_aloadN (pc' := 11) X0.here hx (hb hby own_d12_10) rfl rfl rfl ?_
  refine s_iloadN (pc' := 12) X0.here hx (hb hby own_d12_11) rfl rfl ?_
  refine s_caload (pc' := 13) (v := (.int x0)) X0 hx hZ e0 V_c ⟨by decide, by decide⟩ rfl (hb hby own_d12_12) rfl ?_
  refine s_istore (pc' := 15) X0.here hx (l' := #[.val (.ref ca), .val (.int (0 : Int32)), .val (.ref b), .val (.int (0 : Int32)), .val (.int (1 : Int32)), .val (.int (0 : Int32)), .val (.int x0)]) (hb hby own_d12_13) rfl rfl ?_
  refine s_iload (pc' := 17) X0.here hx (hb hby own_d12_15) rfl rfl ?_
  refine s_sipush (pc' := 20) X0.here hx (v := (255 : Int32)) (hb hby own_d12_17) rfl rfl ?_
  have hk2 : ¬ ((255 : Int32) < x0) := le_x0
  refine s_icmpYes (pc' := 26) X0.here hx (hb hby own_d12_20) (flt hk2).2.2.2 (by decide) (by decide) ?_
  refine s_aloadN (pc' := 27) X0.here hx (hb hby own_d12_26) rfl rfl rfl ?_
  refine s_iloadN (pc' := 28) X0.here hx (hb hby own_d12_27) rfl rfl ?_
  refine s_iload (pc' := 30) X0.here hx (hb hby own_d12_28) rfl rfl ?_
  refine s_i2b (pc' := 31) X0.here hx (hb hby own_d12_30) rfl ?_
  refine s_putB (pc' := 32) X0 hx hZ e0 V_b ⟨by decide, by decide⟩ 0 rfl (Nat.le_of_ble_eq_true rfl) (hb hby own_d12_31) rfl fun T3 hp3 X3 e3 W3 Vw3 => ?_
  have V4 : Arv Z hp3 b k .byte (1 : Int32) [(.int (nar .byte (x0.toInt8.toInt32)))] (.int (0 : Int32)) := Vw3
  have N3 := Fr.snoc X3 N0 g_b
  have f5 := V_c.other W3 ne_cb
  have Z6 : n0 ≤ hp3.size := Nat.le_trans Z0 (Keep.of_wr W3).1
  have K7 : Keep h0 hp3 [b] := Kr0.wr W3 (Or.inl (List.mem_of_getElem? (i := 0) rfl))
  refine s_iinc (pc' := 35) X3.here hx (v := (1 : Int32)) (l' := #[.val (.ref ca), .val (.int ((0 : Int32) + (1 : Int32))), .val (.ref b), .val (.int (0 : Int32)), .val (.int (1 : Int32)), .val (.int (0 : Int32)), .val (.int x0)]) (hb hby own_d12_32) rfl rfl rfl rfl ?_
  refine s_iinc (pc' := 38) X3.here hx (v := (1 : Int32)) (l' := #[.val (.ref ca), .val (.int ((0 : Int32) + (1 : Int32))), .val (.ref b), .val (.int ((0 : Int32) + (1 : Int32))), .val (.int (1 : Int32)), .val (.int (0 : Int32)), .val (.int x0)]) (hb hby own_d12_35) rfl rfl rfl rfl ?_
  refine s_iinc (pc' := 41) X3.here hx (v := (1 : Int32)) (l' := #[.val (.ref ca), .val (.int ((0 : Int32) + (1 : Int32))), .val (.ref b), .val (.int ((0 : Int32) + (1 : Int32))), .val (.int (1 : Int32)), .val (.int ((0 : Int32) + (1 : Int32))), .val (.int x0)]) (hb hby own_d12_38) rfl rfl rfl rfl ?_
  refine s_goto (pc' := 3) X3.here hx (hb hby own_d12_41) (by decide) (by decide) ?_
  rw [show ((0 : Int32) + (1 : Int32)) = (1 : Int32) from by decide]
  refine s_iload (pc' := 5) X3.here hx (hb hby own_d12_3) rfl rfl ?_
  refine s_iload (pc' := 7) X3.here hx (hb hby own_d12_5) rfl rfl ?_
  have hk8 : ¬ ((1 : Int32) < (1 : Int32)) := by decide
  refine s_icmpYes (pc' := 44) X3.here hx (hb hby own_d12_7) (flt hk8).2.1 (by decide) (by decide) ?_
  refine s_iload (pc' := 46) X3.here hx (hb hby own_d12_44) rfl rfl ?_
  obtain ⟨fs, hr, hrun, hended, hW, hsame⟩ := X3.leave (v := some (.int (1 : Int32))) (fun h => by rw [Bd.returns] at h; cases h)
  refine ⟨_, _, retOut X3 hx Bd.returns rfl (Or.inl ⟨rfl, Or.inl rfl, _, rfl⟩) (hb hby own_d12_46) hr, hrun, hended, _, _, rfl, ?_, ⟨_, rfl⟩, hW, hsame.mono (by decide) (by decide)⟩
  show own_cm5_1_Q Z ca b kc k x0 h0 n0 _ T3.heap _
  rw [e3]
  exact ⟨rfl, N3, K7, V4⟩
theorem own_d11_0 : decode jdk_52_method_16_code 0 = .ok (.iload_n 2, 1) := by decide +kernel
theorem own_d11_1 : decode jdk_52_method_16_code 1 = .ok (.newarray .byte, 2) := by decide +kernel
theorem own_d11_3 : decode jdk_52_method_16_code 3 = .ok (.astore_n 3, 1) := by decide +kernel
theorem own_d11_4 : decode jdk_52_method_16_code 4 = .ok (.aload_n 0, 1) := by decide +kernel
theorem own_d11_5 : decode jdk_52_method_16_code 5 = .ok (.iload_n 1, 1) := by decide +kernel
theorem own_d11_6 : decode jdk_52_method_16_code 6 = .ok (.aload_n 3, 1) := by decide +kernel
theorem own_d11_7 : decode jdk_52_method_16_code 7 = .ok (.iconst 0, 1) := by decide +kernel
theorem own_d11_8 : decode jdk_52_method_16_code 8 = .ok (.iload_n 2, 1) := by decide +kernel
theorem own_d11_9 : decode jdk_52_method_16_code 9 = .ok (.invokestatic 115, 3) := by decide +kernel
theorem own_pd0 : parseMethodDescriptor "([CI[BII)I" = some ⟨[(.array .char), .int, (.array .byte), .int, .int], some .int⟩ := by decide +kernel
theorem own_d11_12 : decode jdk_52_method_16_code 12 = .ok (.istore 4, 2) := by decide +kernel
theorem own_d11_14 : decode jdk_52_method_16_code 14 = .ok (.iload 4, 2) := by decide +kernel
theorem own_d11_16 : decode jdk_52_method_16_code 16 = .ok (.iload_n 2, 1) := by decide +kernel
theorem own_d11_17 : decode jdk_52_method_16_code 17 = .ok (.if_icmp .eq 40, 3) := by decide +kernel
theorem own_d11_57 : decode jdk_52_method_16_code 57 = .ok (.aload_n 3, 1) := by decide +kernel
theorem own_d11_58 : decode jdk_52_method_16_code 58 = .ok (.areturn, 1) := by decide +kernel
theorem own_cm3_1_ef (m : MethodId) (ca : Addr) (kc : ClassId) (x0 : Int32) : entryFrame m #[(.ref ca), (.int (0 : Int32)), (.int (1 : Int32))] 6 = mkF m 0 #[.val (.ref ca), .val (.int (0 : Int32)), .val (.int (1 : Int32)), .unset, .unset, .unset] [] := by first | (simp [entryFrame, mkF, argsToLocals, Value.category]; done) | rfl
def own_cm3_1_Q (Z : State) (ca : Addr) (kc : ClassId) (x0 : Int32) (h0 : Heap) (n0 : Nat) (v : Option Value) (h : Heap) (L : List Loc) : Prop := ∃ b kb, v = some (.ref b) ∧ Fr n0 L ∧ Keep h0 h [] ∧ h0.size ≤ b ∧ Arv Z h b kb .byte (1 : Int32) [(.int (nar .byte (x0.toInt8.toInt32)))] (.int (0 : Int32))
set_option maxRecDepth 65536 in
set_option maxHeartbeats 40000000 in
theorem own_cm3_1 (l : Launch) (Z : State) (a0 : Array Value) (hw : ∀ d ∈ tables_1, d.before a0 Z = true) (ws : List Jvm.Cond) (ca : Addr) (kc : ClassId) (x0 : Int32) (h0 : Heap) (n0 : Nat) (Z0 : n0 ≤ h0.size) (V_c : Arv Z h0 ca kc .char (1 : Int32) [(.int x0)] (.int (0 : Int32))) (le_x0 : ¬ (255 : Int32) < x0) :
    MetFree l (⟨"java/lang/StringUTF16", "compress", "([CII)[B"⟩ : MethodName) (head1 (Jvm.Cond.code (⟨"java/lang/StringUTF16", "compress", "([CII)[B"⟩ : MethodName) jdk_52_method_16_code 6 (some (.array .byte)) :: ws) ({ frames := 1, cells := 1, slots := 1, locals := 18 } : Room)) (fun as_ U => as_ = #[(.ref ca), (.int (0 : Int32)), (.int (1 : Int32))] ∧ Z.Warmed39 U.vm ∧ U.heap = h0) (fun _ _ _ _ _ => True) (fun _ U_ o_ V_ => ∃ v_ L_, o_ = .returned v_ ∧ own_cm3_1_Q Z ca kc x0 h0 n0 v_ V_.heap L_ ∧ FrameEnd U_ o_ V_ L_ ({ frames := 1, cells := 1, slots := 1, locals := 18 } : Room).cells ({ frames := 1, cells := 1, slots := 1, locals := 18 } : Room).slots) := by
  refine MetFree.of_bodySF (plainFor_of_name own_pn0) hisR ?_
  intro p e s m args below meth c s₁ Bd hml0 hP hK
  obtain ⟨rfl, hZ, hh⟩ := hP
  have hx := Bd.exec
  have hby := Bd.bytes
  have hml : c.maxLocals = 6 := hml0
  have hown : s.vm.findClass "java/lang/StringUTF16" = some m.cls := findClass_of_methodNamed Bd.named
  have hnm := (name_of_methodNamed Bd.named Bd.method).1
  have X0 : Stand p l e ({ frames := 1, cells := 1, slots := 1, locals := 18 } : Room) s m #[(.ref ca), (.int (0 : Int32)), (.int (1 : Int32))] below meth c s₁ [] 0 0 := Stand.of_body Bd
  have e0 : s₁.heap = h0 := by rw [← hh, Bd.state]; rfl
  have N0 := Fr.nil n0
  refine own_begin (own_cm3_1_ef m ca kc x0) ?_
  show Ends p.tables e below (s₁.setTop (mkF m 0 #[.val (.ref ca), .val (.int (0 : Int32)), .val (.int (1 : Int32)), .unset, .unset, .unset] [])) _
  have Kr0 : Keep h0 h0 [] := Keep.refl h0 _
  refine s_iloadN (pc' := 1) X0.here hx (hb hby own_d11_0) rfl rfl ?_
  refine s_newP (pc' := 3) (cap := 1) X0 hx hZ (hw _ (List.mem_of_getElem? (i := 22) rfl)) e0 (hb hby own_d11_1) (by decide) (by decide) (by decide) (by decide) (by decide) rfl fun T1 hp1 X1 e1 ka1 E1 b gq1 A1 => ?_
  have g_b : n0 ≤ b := Nat.le_trans Z0 (Nat.le_of_eq gq1.symm)
  have sz_b : h0.size ≤ b := Nat.le_trans Kr0.1 (Nat.le_of_eq gq1.symm)
  have ne2 : ca ≠ b := Nat.ne_of_lt (Nat.lt_of_lt_of_le V_c.lt (Nat.le_of_eq gq1.symm))
  have f3 := V_c.ext E1
  have Z4 : n0 ≤ hp1.size := Nat.le_trans Z0 E1.1
  have K5 : Keep h0 hp1 [] := Kr0.ext E1
  have V6 : Arv Z hp1 b ka1 .byte (1 : Int32) [(.int (0 : Int32))] (.int (0 : Int32)) := (Arv.new A1 (by decide)).pad (pad_rep [] (.int (0 : Int32)) 1)
  refine s_astoreN (pc' := 4) X1.here hx (l' := #[.val (.ref ca), .val (.int (0 : Int32)), .val (.int (1 : Int32)), .val (.ref b), .unset, .unset]) (hb hby own_d11_3) rfl rfl rfl ?_
  refine s_aloadN (pc' := 5) X1.here hx (hb hby own_d11_4) rfl rfl rfl ?_
  refine s_iloadN (pc' := 6) X1.here hx (hb hby own_d11_5) rfl rfl ?_
  refine s_aloadN (pc' := 7) X1.here hx (hb hby own_d11_6) rfl rfl rfl ?_
  refine s_iconst (pc' := 8) X1.here hx (v := (0 : Int32)) (hb hby own_d11_7) rfl rfl ?_
  refine s_iloadN (pc' := 9) X1.here hx (hb hby own_d11_8) rfl rfl ?_
  refine s_callS (pc' := 12) (W := 0) X1 hx hZ  hown (hw _ (List.mem_of_getElem? (i := 77) rfl)) (hw _ (List.mem_of_getElem? (i := 78) rfl)) (hw _ (List.mem_of_getElem? (i := 75) rfl)) (hw _ (List.mem_of_getElem? (i := 79) rfl)) (by decide) e1 (own_cm5_1 l Z a0 hw [] ca b kc ka1 x0 hp1 n0 Z4 f3 V6 ne2 g_b le_x0) (by rw [hml]; rfl) [(.ref ca), (.int (0 : Int32)), (.ref b), (.int (0 : Int32)), (.int (1 : Int32))] [] rfl (lenOf own_pd0 rfl) rfl (Nat.le_of_eq rfl) (by decide) (by decide) (by decide) (by decide) rfl (hb hby own_d11_9) fun T7 v7 Lc7 X7 hQ7 => ?_
  obtain ⟨rfl, Nq7, Kq7, Vb⟩ := hQ7
  have N7 := Fr.app N0 Nq7
  have f8 := f3.keep Kq7 (ninS ne2 nin0)
  have Z9 : n0 ≤ T7.heap.size := Nat.le_trans Z4 Kq7.1
  have K10 : Keep h0 T7.heap [] := K5.trans Kq7 (allS (Or.inr sz_b) all0)
  show Ends p.tables e below (T7.setTop (mkF m 12 #[.val (.ref ca), .val (.int (0 : Int32)), .val (.int (1 : Int32)), .val (.ref b), .unset, .unset] [(.int (1 : Int32))])) _
  refine s_istore (pc' := 14) X7.here hx (l' := #[.val (.ref ca), .val (.int (0 : Int32)), .val (.int (1 : Int32)), .val (.ref b), .val (.int (1 : Int32)), .unset]) (hb hby own_d11_12) rfl rfl ?_
  refine s_iload (pc' := 16) X7.here hx (hb hby own_d11_14) rfl rfl ?_
  refine s_iloadN (pc' := 17) X7.here hx (hb hby own_d11_16) rfl rfl ?_
  have hk11 : (1 : Int32) = (1 : Int32) := rfl
  refine s_icmpYes (pc' := 57) X7.here hx (hb hby own_d11_17) (teq hk11).1 (by decide) (by decide) ?_
  refine s_aloadN (pc' := 58) X7.here hx (hb hby own_d11_57) rfl rfl rfl ?_
  obtain ⟨fs, hr, hrun, hended, hW, hsame⟩ := X7.leave (v := some (.ref b)) (fun h => by rw [Bd.returns] at h; cases h)
  refine ⟨_, _, retOut X7 hx Bd.returns rfl (Or.inr (Or.inr (Or.inr (Or.inr ⟨rfl, rfl, rfl⟩)))) (hb hby own_d11_58) hr, hrun, hended, _, _, rfl, ?_, ⟨_, rfl⟩, hW, hsame.mono (by decide) (by decide)⟩
  show own_cm3_1_Q Z ca kc x0 h0 n0 _ T7.heap _
  exact ⟨b, ka1, rfl, N7, K10, sz_b, Vb⟩
theorem own_d13_0 : decode jdk_52_method_15_code 0 = .ok (.iload_n 1, 1) := by decide +kernel
theorem own_d13_1 : decode jdk_52_method_15_code 1 = .ok (.aload_n 0, 1) := by decide +kernel
theorem own_d13_2 : decode jdk_52_method_15_code 2 = .ok (.arraylength, 1) := by decide +kernel
theorem own_d13_3 : decode jdk_52_method_15_code 3 = .ok (.isub, 1) := by decide +kernel
theorem own_d13_4 : decode jdk_52_method_15_code 4 = .ok (.bipush 31, 2) := by decide +kernel
theorem own_d13_6 : decode jdk_52_method_15_code 6 = .ok (.iushr, 1) := by decide +kernel
theorem own_d13_7 : decode jdk_52_method_15_code 7 = .ok (.i2b, 1) := by decide +kernel
theorem own_d13_8 : decode jdk_52_method_15_code 8 = .ok (.ireturn, 1) := by decide +kernel
theorem own_cfl_1_ef (m : MethodId) (b : Addr) (k : ClassId) (vs : List Value) : entryFrame m #[(.ref b), (.int (1 : Int32))] 2 = mkF m 0 #[.val (.ref b), .val (.int (1 : Int32))] [] := by first | (simp [entryFrame, mkF, argsToLocals, Value.category]; done) | rfl
def own_cfl_1_Q (Z : State) (b : Addr) (k : ClassId) (vs : List Value) (h0 : Heap) (n0 : Nat) (v : Option Value) (h : Heap) (L : List Loc) : Prop := v = some (.int 0) ∧ Fr n0 L ∧ h = h0
set_option maxRecDepth 65536 in
set_option maxHeartbeats 40000000 in
theorem own_cfl_1 (l : Launch) (Z : State) (a0 : Array Value) (hw : ∀ d ∈ tables_1, d.before a0 Z = true) (ws : List Jvm.Cond) (b : Addr) (k : ClassId) (vs : List Value) (h0 : Heap) (n0 : Nat) (Z0 : n0 ≤ h0.size) (V_b : Arv Z h0 b k .byte (1 : Int32) vs (.int (0 : Int32))) :
    MetFree l (⟨"java/lang/StringUTF16", "coderFromArrayLen", "([BI)B"⟩ : MethodName) (head1 (Jvm.Cond.code (⟨"java/lang/StringUTF16", "coderFromArrayLen", "([BI)B"⟩ : MethodName) jdk_52_method_15_code 2 (some .byte) :: ws) ({ frames := 0, cells := 0, slots := 0, locals := 0 } : Room)) (fun as_ U => as_ = #[(.ref b), (.int (1 : Int32))] ∧ Z.Warmed39 U.vm ∧ U.heap = h0) (fun _ _ _ _ _ => True) (fun _ U_ o_ V_ => ∃ v_ L_, o_ = .returned v_ ∧ own_cfl_1_Q Z b k vs h0 n0 v_ V_.heap L_ ∧ FrameEnd U_ o_ V_ L_ ({ frames := 0, cells := 0, slots := 0, locals := 0 } : Room).cells ({ frames := 0, cells := 0, slots := 0, locals := 0 } : Room).slots) := by
  refine MetFree.of_bodySF (plainFor_of_name own_pn0) hisR ?_
  intro p e s m args below meth c s₁ Bd hml0 hP hK
  obtain ⟨rfl, hZ, hh⟩ := hP
  have hx := Bd.exec
  have hby := Bd.bytes
  have hml : c.maxLocals = 2 := hml0
  have hown : s.vm.findClass "java/lang/StringUTF16" = some m.cls := findClass_of_methodNamed Bd.named
  have hnm := (name_of_methodNamed Bd.named Bd.method).1
  have X0 : Stand p l e ({ frames := 0, cells := 0, slots := 0, locals := 0 } : Room) s m #[(.ref b), (.int (1 : Int32))] below meth c s₁ [] 0 0 := Stand.of_body Bd
  have e0 : s₁.heap = h0 := by rw [← hh, Bd.state]; rfl
  have N0 := Fr.nil n0
  refine own_begin (own_cfl_1_ef m b k vs) ?_
  show Ends p.tables e below (s₁.setTop (mkF m 0 #[.val (.ref b), .val (.int (1 : Int32))] [])) _
  refine s_iloadN (pc' := 1) X0.here hx (hb hby own_d13_0) rfl rfl ?_
  refine s_aloadN (pc' := 2) X0.here hx (hb hby own_d13_1) rfl rfl rfl ?_
  refine s_arraylength (pc' := 3) X0 hx hZ e0 V_b (hb hby own_d13_2) rfl ?_
  refine s_isub (pc' := 4) X0.here hx (hb hby own_d13_3) rfl ?_
  refine s_bipush (pc' := 6) X0.here hx (v := (31 : Int32)) (hb hby own_d13_4) rfl rfl ?_
  refine s_iushr (pc' := 7) X0.here hx (hb hby own_d13_6) rfl ?_
  refine s_i2b (pc' := 8) X0.here hx (hb hby own_d13_7) rfl ?_
  obtain ⟨fs, hr, hrun, hended, hW, hsame⟩ := X0.leave (v := some (.int (0 : Int32))) (fun h => by rw [Bd.returns] at h; cases h)
  refine ⟨_, _, retN X0 hx (t := .byte) Bd.returns (by simp) (hb hby own_d13_8) hr, hrun, hended, _, _, rfl, ?_, ⟨_, rfl⟩, hW, hsame.mono (by decide) (by decide)⟩
  show own_cfl_1_Q Z b k vs h0 n0 _ s₁.heap _
  rw [e0]
  exact ⟨rfl, N0, rfl⟩
theorem own_d3_0 : decode jdk_42_method_149_code 0 = .ok (.aload_n 0, 1) := by decide +kernel
theorem own_d3_1 : decode jdk_42_method_149_code 1 = .ok (.invokespecial 1, 3) := by decide +kernel
theorem own_d3_4 : decode jdk_42_method_149_code 4 = .ok (.iload_n 3, 1) := by decide +kernel
theorem own_d3_5 : decode jdk_42_method_149_code 5 = .ok (.ifCond .ne 22, 3) := by decide +kernel
theorem own_d3_27 : decode jdk_42_method_149_code 27 = .ok (.getstatic 38, 3) := by decide +kernel
theorem own_d3_30 : decode jdk_42_method_149_code 30 = .ok (.ifCond .eq 28, 3) := by decide +kernel
theorem own_d3_33 : decode jdk_42_method_149_code 33 = .ok (.aload_n 1, 1) := by decide +kernel
theorem own_d3_34 : decode jdk_42_method_149_code 34 = .ok (.iload_n 2, 1) := by decide +kernel
theorem own_d3_35 : decode jdk_42_method_149_code 35 = .ok (.iload_n 3, 1) := by decide +kernel
theorem own_d3_36 : decode jdk_42_method_149_code 36 = .ok (.invokestatic 177, 3) := by decide +kernel
theorem own_pd1 : parseMethodDescriptor "([CII)[B" = some ⟨[(.array .char), .int, .int], some (.array .byte)⟩ := by decide +kernel
theorem own_d3_39 : decode jdk_42_method_149_code 39 = .ok (.astore 5, 2) := by decide +kernel
theorem own_d3_41 : decode jdk_42_method_149_code 41 = .ok (.aload_n 0, 1) := by decide +kernel
theorem own_d3_42 : decode jdk_42_method_149_code 42 = .ok (.aload 5, 2) := by decide +kernel
theorem own_d3_44 : decode jdk_42_method_149_code 44 = .ok (.iload_n 3, 1) := by decide +kernel
theorem own_d3_45 : decode jdk_42_method_149_code 45 = .ok (.invokestatic 47, 3) := by decide +kernel
theorem own_pd2 : parseMethodDescriptor "([BI)B" = some ⟨[(.array .byte), .int], some .byte⟩ := by decide +kernel
theorem own_d3_48 : decode jdk_42_method_149_code 48 = .ok (.putfield 15, 3) := by decide +kernel
theorem own_d3_51 : decode jdk_42_method_149_code 51 = .ok (.aload_n 0, 1) := by decide +kernel
theorem own_d3_52 : decode jdk_42_method_149_code 52 = .ok (.aload 5, 2) := by decide +kernel
theorem own_d3_54 : decode jdk_42_method_149_code 54 = .ok (.putfield 9, 3) := by decide +kernel
theorem own_d3_57 : decode jdk_42_method_149_code 57 = .ok (.return_, 1) := by decide +kernel
theorem own_pn1 : plainName "java/lang/String" = true := by first | (simp [plainName, overriddenIn]; done) | decide +kernel
theorem own_si4_1_ef (m : MethodId) (a : Addr) (ca : Addr) (kc : ClassId) (cs : Int32) (x0 : Int32) : entryFrame m #[(.ref a), (.ref ca), (.int (0 : Int32)), (.int (1 : Int32)), .null] 6 = mkF m 0 #[.val (.ref a), .val (.ref ca), .val (.int (0 : Int32)), .val (.int (1 : Int32)), .val .null, .unset] [] := by first | (simp [entryFrame, mkF, argsToLocals, Value.category]; done) | rfl
def own_si4_1_Q (Z : State) (a : Addr) (ca : Addr) (kc : ClassId) (cs : Int32) (x0 : Int32) (h0 : Heap) (n0 : Nat) (v : Option Value) (h : Heap) (L : List Loc) : Prop := ∃ b kb, v = none ∧ Fr n0 L ∧ Keep h0 h [a] ∧ h0.size ≤ b ∧ Exa Z h a "java/lang/String" ∧ Fld Z h a "java/lang/String" "coder" "B" (.int (0 : Int32)) ∧ Fld Z h a "java/lang/String" "value" "[B" (.ref b) ∧ Arv Z h b kb .byte (1 : Int32) [(.int (nar .byte (x0.toInt8.toInt32)))] (.int (0 : Int32))
set_option maxRecDepth 65536 in
set_option maxHeartbeats 40000000 in
theorem own_si4_1 (l : Launch) (Z : State) (a0 : Array Value) (hw : ∀ d ∈ tables_1, d.before a0 Z = true) (ws : List Jvm.Cond) (a : Addr) (ca : Addr) (kc : ClassId) (cs : Int32) (x0 : Int32) (h0 : Heap) (n0 : Nat) (Z0 : n0 ≤ h0.size) (O0 : Old Z n0 h0) (S_cs : Sta Z Z.heap "java/lang/String" "COMPACT_STRINGS" "Z" (.int cs)) (hcs : ¬ cs = (0 : Int32)) (F_v : Fld Z h0 a "java/lang/String" "value" "[B" .null) (F_c : Fld Z h0 a "java/lang/String" "coder" "B" (.int (0 : Int32))) (E_a : Exa Z h0 a "java/lang/String") (g_a : n0 ≤ a) (V_c : Arv Z h0 ca kc .char (1 : Int32) [(.int x0)] (.int (0 : Int32))) (le_x0 : ¬ (255 : Int32) < x0) :
    MetFree l (⟨"java/lang/String", "<init>", "([CIILjava/lang/Void;)V"⟩ : MethodName) (head1 (Jvm.Cond.code (⟨"java/lang/String", "<init>", "([CIILjava/lang/Void;)V"⟩ : MethodName) jdk_42_method_149_code 6 none :: ws) ({ frames := 2, cells := 1, slots := 1, locals := 35 } : Room)) (fun as_ U => as_ = #[(.ref a), (.ref ca), (.int (0 : Int32)), (.int (1 : Int32)), .null] ∧ Z.Warmed39 U.vm ∧ U.heap = h0) (fun _ _ _ _ _ => True) (fun _ U_ o_ V_ => ∃ v_ L_, o_ = .returned v_ ∧ own_si4_1_Q Z a ca kc cs x0 h0 n0 v_ V_.heap L_ ∧ FrameEnd U_ o_ V_ L_ ({ frames := 2, cells := 1, slots := 1, locals := 35 } : Room).cells ({ frames := 2, cells := 1, slots := 1, locals := 35 } : Room).slots) := by
  refine MetFree.of_bodySF (plainFor_of_name own_pn1) hisR ?_
  intro p e s m args below meth c s₁ Bd hml0 hP hK
  obtain ⟨rfl, hZ, hh⟩ := hP
  have hx := Bd.exec
  have hby := Bd.bytes
  have hml : c.maxLocals = 6 := hml0
  have hown : s.vm.findClass "java/lang/String" = some m.cls := findClass_of_methodNamed Bd.named
  have hnm := (name_of_methodNamed Bd.named Bd.method).1
  have X0 : Stand p l e ({ frames := 2, cells := 1, slots := 1, locals := 35 } : Room) s m #[(.ref a), (.ref ca), (.int (0 : Int32)), (.int (1 : Int32)), .null] below meth c s₁ [] 0 0 := Stand.of_body Bd
  have e0 : s₁.heap = h0 := by rw [← hh, Bd.state]; rfl
  have N0 := Fr.nil n0
  refine own_begin (own_si4_1_ef m a ca kc cs x0) ?_
  show Ends p.tables e below (s₁.setTop (mkF m 0 #[.val (.ref a), .val (.ref ca), .val (.int (0 : Int32)), .val (.int (1 : Int32)), .val .null, .unset] [])) _
  have Kr0 : Keep h0 h0 [a] := Keep.refl h0 _
  refine s_aloadN (pc' := 1) X0.here hx (hb hby own_d3_0) rfl rfl rfl ?_
  refine s_initO (pc' := 4) (W := 0) X0 hx hZ hown (hw _ (List.mem_of_getElem? (i := 18) rfl)) (hw _ (List.mem_of_getElem? (i := 19) rfl)) (hw _ (List.mem_of_getElem? (i := 20) rfl)) e0 (by rw [hml]; rfl) (hb hby own_d3_1) (by decide) (Nat.le_of_eq rfl) (by decide) rfl fun T1 X1 e1 => ?_
  refine s_iloadN (pc' := 5) X1.here hx (hb hby own_d3_4) rfl rfl ?_
  have hk2 : ¬ ((1 : Int32) = (0 : Int32)) := by decide
  refine s_ifYes (pc' := 27) X1.here hx (hb hby own_d3_5) ((if0 _ _).trans (feq hk2).2) (by decide) (by decide) ?_
  refine s_getS (pc' := 30) X1 hx hZ hown (host := "") (Or.inl (hw _ (List.mem_of_getElem? (i := 66) rfl))) Via.refl e1 (S_cs.ext O0.2) (hb hby own_d3_27) rfl fun T3 X3 e3 => ?_
  have hk4 : ¬ (cs = (0 : Int32)) := hcs
  refine s_ifNo (pc' := 33) X3.here hx (hb hby own_d3_30) ((if0 _ _).trans (feq hk4).1) rfl ?_
  refine s_aloadN (pc' := 34) X3.here hx (hb hby own_d3_33) rfl rfl rfl ?_
  refine s_iloadN (pc' := 35) X3.here hx (hb hby own_d3_34) rfl rfl ?_
  refine s_iloadN (pc' := 36) X3.here hx (hb hby own_d3_35) rfl rfl ?_
  refine s_callS (pc' := 39) (W := 0) X3 hx hZ  hown (hw _ (List.mem_of_getElem? (i := 73) rfl)) (hw _ (List.mem_of_getElem? (i := 74) rfl)) (hw _ (List.mem_of_getElem? (i := 75) rfl)) (hw _ (List.mem_of_getElem? (i := 76) rfl)) (by decide) e3 (own_cm3_1 l Z a0 hw [] ca kc x0 h0 n0 Z0 V_c le_x0) (by rw [hml]; rfl) [(.ref ca), (.int (0 : Int32)), (.int (1 : Int32))] [] rfl (lenOf own_pd1 rfl) rfl (Nat.le_of_eq rfl) (by decide) (by decide) (by decide) (by decide) rfl (hb hby own_d3_36) fun T5 v5 Lc5 X5 hQ5 => ?_
  obtain ⟨b, kb, rfl, Nq5, Kq5, szb, Vb⟩ := hQ5
  have g_b : n0 ≤ b := Nat.le_trans Z0 szb
  have sz_b : h0.size ≤ b := Nat.le_trans Kr0.1 szb
  have ne6 : a ≠ b := Nat.ne_of_lt (Nat.lt_of_lt_of_le F_v.lt szb)
  have ne7 : ca ≠ b := Nat.ne_of_lt (Nat.lt_of_lt_of_le V_c.lt szb)
  have O8 := O0.keep Kq5 all0
  have N5 := Fr.app N0 Nq5
  have f9 := F_v.keep Kq5 nin0
  have f10 := F_c.keep Kq5 nin0
  have f11 := E_a.keep Kq5
  have f12 := V_c.keep Kq5 nin0
  have Z13 : n0 ≤ T5.heap.size := Nat.le_trans Z0 Kq5.1
  have K14 : Keep h0 T5.heap [a] := Kr0.trans Kq5 all0
  show Ends p.tables e below (T5.setTop (mkF m 39 #[.val (.ref a), .val (.ref ca), .val (.int (0 : Int32)), .val (.int (1 : Int32)), .val .null, .unset] [(.ref b)])) _
  refine s_astore (pc' := 41) X5.here hx (l' := #[.val (.ref a), .val (.ref ca), .val (.int (0 : Int32)), .val (.int (1 : Int32)), .val .null, .val (.ref b)]) (hb hby own_d3_39) rfl rfl rfl ?_
  refine s_aloadN (pc' := 42) X5.here hx (hb hby own_d3_41) rfl rfl rfl ?_
  refine s_aload (pc' := 44) X5.here hx (hb hby own_d3_42) rfl rfl rfl ?_
  refine s_iloadN (pc' := 45) X5.here hx (hb hby own_d3_44) rfl rfl ?_
  refine s_callS (pc' := 48) (W := 1) X5 hx hZ  hown (hw _ (List.mem_of_getElem? (i := 80) rfl)) (hw _ (List.mem_of_getElem? (i := 81) rfl)) (hw _ (List.mem_of_getElem? (i := 75) rfl)) (hw _ (List.mem_of_getElem? (i := 82) rfl)) (by decide) rfl (own_cfl_1 l Z a0 hw [] b kb [(.int (nar .byte (x0.toInt8.toInt32)))] T5.heap n0 Z13 Vb) (by rw [hml]; rfl) [(.ref b), (.int (1 : Int32))] [(.ref a)] rfl (lenOf own_pd2 rfl) rfl (Nat.le_of_eq rfl) (by decide) (by decide) (by decide) (by decide) rfl (hb hby own_d3_45) fun T15 v15 Lc15 X15 hQ15 => ?_
  obtain ⟨rfl, Nq15, eh15⟩ := hQ15
  have N15 := Fr.app N5 Nq15
  show Ends p.tables e below (T15.setTop (mkF m 48 #[.val (.ref a), .val (.ref ca), .val (.int (0 : Int32)), .val (.int (1 : Int32)), .val .null, .val (.ref b)] [(.int (0 : Int32)), (.ref a)])) _
  refine s_putFN (pc' := 51) (v' := (.int (0 : Int32))) (ty := .byte) X15 hx hZ hown (hw _ (List.mem_of_getElem? (i := 28) rfl)) Via.refl eh15 f10 f11 (Or.inr ⟨(hw _ (List.mem_of_getElem? (i := 24) rfl)), rfl, hnm⟩) (hw _ (List.mem_of_getElem? (i := 8) rfl)) (by decide) rfl rfl (hb hby own_d3_48) rfl fun T16 hp16 X16 e16 W16 => ?_
  have N16 := Fr.snoc X16 N15 g_a
  have O17 := O8.wr W16 g_a
  have f18 := f9.other W16 (Or.inr (slot_ne (Or.inr (hw _ (List.mem_of_getElem? (i := 23) rfl))) (Or.inr (hw _ (List.mem_of_getElem? (i := 24) rfl))) (by decide) (t := (.array .byte)) (t' := .byte) (by decide) (by decide)))
  have f19 := f10.same W16
  have f20 := f11.wr W16
  have f21 := Vb.other W16 (Ne.symm ne6)
  have Z22 : n0 ≤ hp16.size := Nat.le_trans Z13 (Keep.of_wr W16).1
  have K23 : Keep h0 hp16 [a] := K14.wr W16 (Or.inl (List.mem_of_getElem? (i := 0) rfl))
  refine s_aloadN (pc' := 52) X16.here hx (hb hby own_d3_51) rfl rfl rfl ?_
  refine s_aload (pc' := 54) X16.here hx (hb hby own_d3_52) rfl rfl rfl ?_
  refine s_putF (pc' := 57) (ty := (.array .byte)) X16 hx hZ hown (host := "") (Or.inl (hw _ (List.mem_of_getElem? (i := 27) rfl))) Via.refl e16 f18 f20 (Or.inr ⟨(hw _ (List.mem_of_getElem? (i := 23) rfl)), rfl, hnm⟩) (hw _ (List.mem_of_getElem? (i := 8) rfl)) (by decide) rfl rfl (hb hby own_d3_54) rfl fun T24 hp24 X24 e24 W24 => ?_
  have N24 := Fr.snoc X24 N16 g_a
  have O25 := O17.wr W24 g_a
  have f26 := f18.same W24
  have f27 := f19.other W24 (Or.inr (slot_ne (Or.inr (hw _ (List.mem_of_getElem? (i := 24) rfl))) (Or.inr (hw _ (List.mem_of_getElem? (i := 23) rfl))) (by decide) (t := .byte) (t' := (.array .byte)) (by decide) (by decide)))
  have f28 := f20.wr W24
  have f29 := f21.other W24 (Ne.symm ne6)
  have Z30 : n0 ≤ hp24.size := Nat.le_trans Z22 (Keep.of_wr W24).1
  have K31 : Keep h0 hp24 [a] := K23.wr W24 (Or.inl (List.mem_of_getElem? (i := 0) rfl))
  obtain ⟨fs, hr, hrun, hended, hW, hsame⟩ := X24.leave (v := none) (fun _ => rfl)
  refine ⟨_, _, X24.returnOut hx Bd.returns (hb hby own_d3_57) hr, hrun, hended, _, _, rfl, ?_, ⟨_, rfl⟩, hW, hsame.mono (by decide) (by decide)⟩
  show own_si4_1_Q Z a ca kc cs x0 h0 n0 _ T24.heap _
  rw [e24]
  exact ⟨b, kb, rfl, N24, K31, sz_b, f28, f27, f26, f29⟩
theorem own_d2_0 : decode jdk_42_method_3_code 0 = .ok (.aload_n 0, 1) := by decide +kernel
theorem own_d2_1 : decode jdk_42_method_3_code 1 = .ok (.aload_n 1, 1) := by decide +kernel
theorem own_d2_2 : decode jdk_42_method_3_code 2 = .ok (.iconst 0, 1) := by decide +kernel
theorem own_d2_3 : decode jdk_42_method_3_code 3 = .ok (.aload_n 1, 1) := by decide +kernel
theorem own_d2_4 : decode jdk_42_method_3_code 4 = .ok (.arraylength, 1) := by decide +kernel
theorem own_d2_5 : decode jdk_42_method_3_code 5 = .ok (.aconst_null, 1) := by decide +kernel
theorem own_d2_6 : decode jdk_42_method_3_code 6 = .ok (.invokespecial 27, 3) := by decide +kernel
theorem own_pd3 : parseMethodDescriptor "([CIILjava/lang/Void;)V" = some ⟨[(.array .char), .int, .int, (.object "java/lang/Void")], none⟩ := by decide +kernel
theorem own_d2_9 : decode jdk_42_method_3_code 9 = .ok (.return_, 1) := by decide +kernel
theorem own_si1_1_ef (m : MethodId) (a : Addr) (ca : Addr) (kc : ClassId) (cs : Int32) (x0 : Int32) : entryFrame m #[(.ref a), (.ref ca)] 2 = mkF m 0 #[.val (.ref a), .val (.ref ca)] [] := by first | (simp [entryFrame, mkF, argsToLocals, Value.category]; done) | rfl
def own_si1_1_Q (Z : State) (a : Addr) (ca : Addr) (kc : ClassId) (cs : Int32) (x0 : Int32) (h0 : Heap) (n0 : Nat) (v : Option Value) (h : Heap) (L : List Loc) : Prop := ∃ b kb, v = none ∧ Fr n0 L ∧ Keep h0 h [a] ∧ h0.size ≤ b ∧ Exa Z h a "java/lang/String" ∧ Fld Z h a "java/lang/String" "coder" "B" (.int (0 : Int32)) ∧ Fld Z h a "java/lang/String" "value" "[B" (.ref b) ∧ Arv Z h b kb .byte (1 : Int32) [(.int (nar .byte (x0.toInt8.toInt32)))] (.int (0 : Int32))
set_option maxRecDepth 65536 in
set_option maxHeartbeats 40000000 in
theorem own_si1_1 (l : Launch) (Z : State) (a0 : Array Value) (hw : ∀ d ∈ tables_1, d.before a0 Z = true) (ws : List Jvm.Cond) (a : Addr) (ca : Addr) (kc : ClassId) (cs : Int32) (x0 : Int32) (h0 : Heap) (n0 : Nat) (Z0 : n0 ≤ h0.size) (O0 : Old Z n0 h0) (S_cs : Sta Z Z.heap "java/lang/String" "COMPACT_STRINGS" "Z" (.int cs)) (hcs : ¬ cs = (0 : Int32)) (F_v : Fld Z h0 a "java/lang/String" "value" "[B" .null) (F_c : Fld Z h0 a "java/lang/String" "coder" "B" (.int (0 : Int32))) (E_a : Exa Z h0 a "java/lang/String") (g_a : n0 ≤ a) (V_c : Arv Z h0 ca kc .char (1 : Int32) [(.int x0)] (.int (0 : Int32))) (le_x0 : ¬ (255 : Int32) < x0) :
    MetFree l (⟨"java/lang/String", "<init>", "([C)V"⟩ : MethodName) (head1 (Jvm.Cond.code (⟨"java/lang/String", "<init>", "([C)V"⟩ : MethodName) jdk_42_method_3_code 2 none :: ws) ({ frames := 3, cells := 1, slots := 1, locals := 52 } : Room)) (fun as_ U => as_ = #[(.ref a), (.ref ca)] ∧ Z.Warmed39 U.vm ∧ U.heap = h0) (fun _ _ _ _ _ => True) (fun _ U_ o_ V_ => ∃ v_ L_, o_ = .returned v_ ∧ own_si1_1_Q Z a ca kc cs x0 h0 n0 v_ V_.heap L_ ∧ FrameEnd U_ o_ V_ L_ ({ frames := 3, cells := 1, slots := 1, locals := 52 } : Room).cells ({ frames := 3, cells := 1, slots := 1, locals := 52 } : Room).slots) := by
  refine MetFree.of_bodySF (plainFor_of_name own_pn1) hisR ?_
  intro p e s m args below meth c s₁ Bd hml0 hP hK
  obtain ⟨rfl, hZ, hh⟩ := hP
  have hx := Bd.exec
  have hby := Bd.bytes
  have hml : c.maxLocals = 2 := hml0
  have hown : s.vm.findClass "java/lang/String" = some m.cls := findClass_of_methodNamed Bd.named
  have hnm := (name_of_methodNamed Bd.named Bd.method).1
  have X0 : Stand p l e ({ frames := 3, cells := 1, slots := 1, locals := 52 } : Room) s m #[(.ref a), (.ref ca)] below meth c s₁ [] 0 0 := Stand.of_body Bd
  have e0 : s₁.heap = h0 := by rw [← hh, Bd.state]; rfl
  have N0 := Fr.nil n0
  refine own_begin (own_si1_1_ef m a ca kc cs x0) ?_
  show Ends p.tables e below (s₁.setTop (mkF m 0 #[.val (.ref a), .val (.ref ca)] [])) _
  have Kr0 : Keep h0 h0 [a] := Keep.refl h0 _
  refine s_aloadN (pc' := 1) X0.here hx (hb hby own_d2_0) rfl rfl rfl ?_
  refine s_aloadN (pc' := 2) X0.here hx (hb hby own_d2_1) rfl rfl rfl ?_
  refine s_iconst (pc' := 3) X0.here hx (v := (0 : Int32)) (hb hby own_d2_2) rfl rfl ?_
  refine s_aloadN (pc' := 4) X0.here hx (hb hby own_d2_3) rfl rfl rfl ?_
  refine s_arraylength (pc' := 5) X0 hx hZ e0 V_c (hb hby own_d2_4) rfl ?_
  refine s_aconstNull (pc' := 6) X0.here hx (hb hby own_d2_5) rfl ?_
  refine s_callI (pc' := 9) (W := 0) X0 hx hZ  rfl hown (hw _ (List.mem_of_getElem? (i := 14) rfl)) (hw _ (List.mem_of_getElem? (i := 15) rfl)) (hw _ (List.mem_of_getElem? (i := 9) rfl)) (hw _ (List.mem_of_getElem? (i := 17) rfl)) (by decide) e0 (own_si4_1 l Z a0 hw [] a ca kc cs x0 h0 n0 Z0 O0 S_cs hcs F_v F_c E_a g_a V_c le_x0) a (by rw [hml]; rfl) [(.ref ca), (.int (0 : Int32)), (.int (1 : Int32)), .null] [] rfl (lenOf own_pd3 rfl) rfl (Nat.le_of_eq rfl) (by decide) (by decide) (by decide) (by decide) rfl (hb hby own_d2_6) fun T1 v1 Lc1 X1 hQ1 => ?_
  obtain ⟨b, kb, rfl, Nq1, Kq1, szb, Ea, Fc, Fv, Vb⟩ := hQ1
  have O2 := O0.keep Kq1 (allS g_a all0)
  have N1 := Fr.app N0 Nq1
  have f3 := E_a.keep Kq1
  have Z4 : n0 ≤ T1.heap.size := Nat.le_trans Z0 Kq1.1
  have K5 : Keep h0 T1.heap [a] := Kr0.trans Kq1 (allS (Or.inl (List.mem_of_getElem? (i := 0) rfl)) all0)
  show Ends p.tables e below (T1.setTop (mkF m 9 #[.val (.ref a), .val (.ref ca)] [])) _
  obtain ⟨fs, hr, hrun, hended, hW, hsame⟩ := X1.leave (v := none) (fun _ => rfl)
  refine ⟨_, _, X1.returnOut hx Bd.returns (hb hby own_d2_9) hr, hrun, hended, _, _, rfl, ?_, ⟨_, rfl⟩, hW, hsame.mono (by decide) (by decide)⟩
  show own_si1_1_Q Z a ca kc cs x0 h0 n0 _ T1.heap _
  exact ⟨b, kb, rfl, N1, K5, szb, Ea, Fc, Fv, Vb⟩
theorem own_cm5_2_ef (m : MethodId) (ca : Addr) (b : Addr) (kc : ClassId) (k : ClassId) (x0 : Int32) (x1 : Int32) : entryFrame m #[(.ref ca), (.int (0 : Int32)), (.ref b), (.int (0 : Int32)), (.int (2 : Int32))] 7 = mkF m 0 #[.val (.ref ca), .val (.int (0 : Int32)), .val (.ref b), .val (.int (0 : Int32)), .val (.int (2 : Int32)), .unset, .unset] [] := by first | (simp [entryFrame, mkF, argsToLocals, Value.category]; done) | rfl
def own_cm5_2_Q (Z : State) (ca : Addr) (b : Addr) (kc : ClassId) (k : ClassId) (x0 : Int32) (x1 : Int32) (h0 : Heap) (n0 : Nat) (v : Option Value) (h : Heap) (L : List Loc) : Prop := v = some (.int (2 : Int32)) ∧ Fr n0 L ∧ Keep h0 h [b] ∧ Arv Z h b k .byte (2 : Int32) [(.int (nar .byte (x0.toInt8.toInt32))), (.int (nar .byte (x1.toInt8.toInt32)))] (.int (0 : Int32))
set_option maxRecDepth 65536 in
set_option maxHeartbeats 40000000 in
theorem own_cm5_2 (l : Launch) (Z : State) (a0 : Array Value) (hw : ∀ d ∈ tables_1, d.before a0 Z = true) (ws : List Jvm.Cond) (ca : Addr) (b : Addr) (kc : ClassId) (k : ClassId) (x0 : Int32) (x1 : Int32) (h0 : Heap) (n0 : Nat) (Z0 : n0 ≤ h0.size) (V_c : Arv Z h0 ca kc .char (2 : Int32) [(.int x0), (.int x1)] (.int (0 : Int32))) (V_b : Arv Z h0 b k .byte (2 : Int32) [(.int (0 : Int32)), (.int (0 : Int32))] (.int (0 : Int32))) (ne_cb : ca ≠ b) (g_b : n0 ≤ b) (le_x0 : ¬ (255 : Int32) < x0) (le_x1 : ¬ (255 : Int32) < x1) :
    MetFree l (⟨"java/lang/StringUTF16", "compress", "([CI[BII)I"⟩ : MethodName) (head1 (Jvm.Cond.code (⟨"java/lang/StringUTF16", "compress", "([CI[BII)I"⟩ : MethodName) jdk_52_method_21_code 7 (some .int) :: ws) ({ frames := 0, cells := 0, slots := 0, locals := 0 } : Room)) (fun as_ U => as_ = #[(.ref ca), (.int (0 : Int32)), (.ref b), (.int (0 : Int32)), (.int (2 : Int32))] ∧ Z.Warmed39 U.vm ∧ U.heap = h0) (fun _ _ _ _ _ => True) (fun _ U_ o_ V_ => ∃ v_ L_, o_ = .returned v_ ∧ own_cm5_2_Q Z ca b kc k x0 x1 h0 n0 v_ V_.heap L_ ∧ FrameEnd U_ o_ V_ L_ ({ frames := 0, cells := 0, slots := 0, locals := 0 } : Room).cells ({ frames := 0, cells := 0, slots := 0, locals := 0 } : Room).slots) := by
  refine MetFree.of_bodySF (plainFor_of_name own_pn0) hisR ?_
  intro p e s m args below meth c s₁ Bd hml0 hP hK
  obtain ⟨rfl, hZ, hh⟩ := hP
  have hx := Bd.exec
  have hby := Bd.bytes
  have hml : c.maxLocals = 7 := hml0
  have hown : s.vm.findClass "java/lang/StringUTF16" = some m.cls := findClass_of_methodNamed Bd.named
  have hnm := (name_of_methodNamed Bd.named Bd.method).1
  have X0 : Stand p l e ({ frames := 0, cells := 0, slots := 0, locals := 0 } : Room) s m #[(.ref ca), (.int (0 : Int32)), (.ref b), (.int (0 : Int32)), (.int (2 : Int32))] below meth c s₁ [] 0 0 := Stand.of_body Bd
  have e0 : s₁.heap = h0 := by rw [← hh, Bd.state]; rfl
  have N0 := Fr.nil n0
  refine own_begin (own_cm5_2_ef m ca b kc k x0 x1) ?_
  show Ends p.tables e below (s₁.setTop (mkF m 0 #[.val (.ref ca), .val (.int (0 : Int32)), .val (.ref b), .val (.int (0 : Int32)), .val (.int (2 : Int32)), .unset, .unset] [])) _
  have Kr0 : Keep h0 h0 [b] := Keep.refl h0 _
  refine s_iconst (pc' := 1) X0.here hx (v := (0 : Int32)) (hb hby own_d12_0) rfl rfl ?_
  refine s_istore (pc' := 3) X0.here hx (l' := #[.val (.ref ca), .val (.int (0 : Int32)), .val (.ref b), .val (.int (0 : Int32)), .val (.int (2 : Int32)), .val (.int (0 : Int32)), .unset]) (hb hby own_d12_1) rfl rfl ?_
  refine s_iload (pc' := 5) X0.here hx (hb hby own_d12_3) rfl rfl ?_
  refine s_iload (pc' := 7) X0.here hx (hb hby own_d12_5) rfl rfl ?_
  have hk1 : (0 : Int32) < (2 : Int32) := by decide
  refine s_icmpNo (pc' := 10) X0.here hx (hb hby own_d12_7) (tlt hk1).2.1 rfl ?_
  refine s_aloadN (pc' := 11) X0.here hx (hb hby own_d12_10) rfl rfl rfl ?_
  refine s_iloadN (pc' := 12) X0.here hx (hb hby own_d12_11) rfl rfl ?_
  refine s_caload (pc' := 13) (v := (.int x0)) X0 hx hZ e0 V_c ⟨by decide, by decide⟩ rfl (hb hby own_d12_12) rfl ?_
  refine s_istore (pc' := 15) X0.here hx (l' := #[.val (.ref ca), .val (.int (0 : Int32)), .val (.ref b), .val (.int (0 : Int32)), .val (.int (2 : Int32)), .val (.int (0 : Int32)), .val (.int x0)]) (hb hby own_d12_13) rfl rfl ?_
  refine s_iload (pc' := 17) X0.here hx (hb hby own_d12_15) rfl rfl ?_
  refine s_sipush (pc' := 20) X0.here hx (v := (255 : Int32)) (hb hby own_d12_17) rfl rfl ?_
  have hk2 : ¬ ((255 : Int32) < x0) := le_x0
  refine s_icmpYes (pc' := 26) X0.here hx (hb hby own_d12_20) (flt hk2).2.2.2 (by decide) (by decide) ?_
  refine s_aloadN (pc' := 27) X0.here hx (hb hby own_d12_26) rfl rfl rfl ?_
  refine s_iloadN (pc' := 28) X0.here hx (hb hby own_d12_27) rfl rfl ?_
  refine s_iload (pc' := 30) X0.here hx (hb hby own_d12_28) rfl rfl ?_
  refine s_i2b (pc' := 31) X0.here hx (hb hby own_d12_30) rfl ?_
  refine s_putB (pc' := 32) X0 hx hZ e0 V_b ⟨by decide, by decide⟩ 0 rfl (Nat.le_of_ble_eq_true rfl) (hb hby own_d12_31) rfl fun T3 hp3 X3 e3 W3 Vw3 => ?_
  have V4 : Arv Z hp3 b k .byte (2 : Int32) [(.int (nar .byte (x0.toInt8.toInt32))), (.int (0 : Int32))] (.int (0 : Int32)) := Vw3
  have N3 := Fr.snoc X3 N0 g_b
  have f5 := V_c.other W3 ne_cb
  have Z6 : n0 ≤ hp3.size := Nat.le_trans Z0 (Keep.of_wr W3).1
  have K7 : Keep h0 hp3 [b] := Kr0.wr W3 (Or.inl (List.mem_of_getElem? (i := 0) rfl))
  refine s_iinc (pc' := 35) X3.here hx (v := (1 : Int32)) (l' := #[.val (.ref ca), .val (.int ((0 : Int32) + (1 : Int32))), .val (.ref b), .val (.int (0 : Int32)), .val (.int (2 : Int32)), .val (.int (0 : Int32)), .val (.int x0)]) (hb hby own_d12_32) rfl rfl rfl rfl ?_
  refine s_iinc (pc' := 38) X3.here hx (v := (1 : Int32)) (l' := #[.val (.ref ca), .val (.int ((0 : Int32) + (1 : Int32))), .val (.ref b), .val (.int ((0 : Int32) + (1 : Int32))), .val (.int (2 : Int32)), .val (.int (0 : Int32)), .val (.int x0)]) (hb hby own_d12_35) rfl rfl rfl rfl ?_
  refine s_iinc (pc' := 41) X3.here hx (v := (1 : Int32)) (l' := #[.val (.ref ca), .val (.int ((0 : Int32) + (1 : Int32))), .val (.ref b), .val (.int ((0 : Int32) + (1 : Int32))), .val (.int (2 : Int32)), .val (.int ((0 : Int32) + (1 : Int32))), .val (.int x0)]) (hb hby own_d12_38) rfl rfl rfl rfl ?_
  refine s_goto (pc' := 3) X3.here hx (hb hby own_d12_41) (by decide) (by decide) ?_
  rw [show ((0 : Int32) + (1 : Int32)) = (1 : Int32) from by decide]
  refine s_iload (pc' := 5) X3.here hx (hb hby own_d12_3) rfl rfl ?_
  refine s_iload (pc' := 7) X3.here hx (hb hby own_d12_5) rfl rfl ?_
  have hk8 : (1 : Int32) < (2 : Int32) := by decide
  refine s_icmpNo (pc' := 10) X3.here hx (hb hby own_d12_7) (tlt hk8).2.1 rfl ?_
  refine s_aloadN (pc' := 11) X3.here hx (hb hby own_d12_10) rfl rfl rfl ?_
  refine s_iloadN (pc' := 12) X3.here hx (hb hby own_d12_11) rfl rfl ?_
  refine s_caload (pc' := 13) (v := (.int x1)) X3 hx hZ e3 f5 ⟨by decide, by decide⟩ rfl (hb hby own_d12_12) rfl ?_
  refine s_istore (pc' := 15) X3.here hx (l' := #[.val (.ref ca), .val (.int (1 : Int32)), .val (.ref b), .val (.int (1 : Int32)), .val (.int (2 : Int32)), .val (.int (1 : Int32)), .val (.int x1)]) (hb hby own_d12_13) rfl rfl ?_
  refine s_iload (pc' := 17) X3.here hx (hb hby own_d12_15) rfl rfl ?_
  refine s_sipush (pc' := 20) X3.here hx (v := (255 : Int32)) (hb hby own_d12_17) rfl rfl ?_
  have hk9 : ¬ ((255 : Int32) < x1) := le_x1
  refine s_icmpYes (pc' := 26) X3.here hx (hb hby own_d12_20) (flt hk9).2.2.2 (by decide) (by decide) ?_
  refine s_aloadN (pc' := 27) X3.here hx (hb hby own_d12_26) rfl rfl rfl ?_
  refine s_iloadN (pc' := 28) X3.here hx (hb hby own_d12_27) rfl rfl ?_
  refine s_iload (pc' := 30) X3.here hx (hb hby own_d12_28) rfl rfl ?_
  refine s_i2b (pc' := 31) X3.here hx (hb hby own_d12_30) rfl ?_
  refine s_putB (pc' := 32) X3 hx hZ e3 V4 ⟨by decide, by decide⟩ 1 rfl (Nat.le_of_ble_eq_true rfl) (hb hby own_d12_31) rfl fun T10 hp10 X10 e10 W10 Vw10 => ?_
  have V11 : Arv Z hp10 b k .byte (2 : Int32) [(.int (nar .byte (x0.toInt8.toInt32))), (.int (nar .byte (x1.toInt8.toInt32)))] (.int (0 : Int32)) := Vw10
  have N10 := Fr.snoc X10 N3 g_b
  have f12 := f5.other W10 ne_cb
  have Z13 : n0 ≤ hp10.size := Nat.le_trans Z6 (Keep.of_wr W10).1
  have K14 : Keep h0 hp10 [b] := K7.wr W10 (Or.inl (List.mem_of_getElem? (i := 0) rfl))
  refine s_iinc (pc' := 35) X10.here hx (v := (1 : Int32)) (l' := #[.val (.ref ca), .val (.int ((1 : Int32) + (1 : Int32))), .val (.ref b), .val (.int (1 : Int32)), .val (.int (2 : Int32)), .val (.int (1 : Int32)), .val (.int x1)]) (hb hby own_d12_32) rfl rfl rfl rfl ?_
  refine s_iinc (pc' := 38) X10.here hx (v := (1 : Int32)) (l' := #[.val (.ref ca), .val (.int ((1 : Int32) + (1 : Int32))), .val (.ref b), .val (.int ((1 : Int32) + (1 : Int32))), .val (.int (2 : Int32)), .val (.int (1 : Int32)), .val (.int x1)]) (hb hby own_d12_35) rfl rfl rfl rfl ?_
  refine s_iinc (pc' := 41) X10.here hx (v := (1 : Int32)) (l' := #[.val (.ref ca), .val (.int ((1 : Int32) + (1 : Int32))), .val (.ref b), .val (.int ((1 : Int32) + (1 : Int32))), .val (.int (2 : Int32)), .val (.int ((1 : Int32) + (1 : Int32))), .val (.int x1)]) (hb hby own_d12_38) rfl rfl rfl rfl ?_
  refine s_goto (pc' := 3) X10.here hx (hb hby own_d12_41) (by decide) (by decide) ?_
  rw [show ((1 : Int32) + (1 : Int32)) = (2 : Int32) from by decide]
  refine s_iload (pc' := 5) X10.here hx (hb hby own_d12_3) rfl rfl ?_
  refine s_iload (pc' := 7) X10.here hx (hb hby own_d12_5) rfl rfl ?_
  have hk15 : ¬ ((2 : Int32) < (2 : Int32)) := by decide
  refine s_icmpYes (pc' := 44) X10.here hx (hb hby own_d12_7) (flt hk15).2.1 (by decide) (by decide) ?_
  refine s_iload (pc' := 46) X10.here hx (hb hby own_d12_44) rfl rfl ?_
  obtain ⟨fs, hr, hrun, hended, hW, hsame⟩ := X10.leave (v := some (.int (2 : Int32))) (fun h => by rw [Bd.returns] at h; cases h)
  refine ⟨_, _, retOut X10 hx Bd.returns rfl (Or.inl ⟨rfl, Or.inl rfl, _, rfl⟩) (hb hby own_d12_46) hr, hrun, hended, _, _, rfl, ?_, ⟨_, rfl⟩, hW, hsame.mono (by decide) (by decide)⟩
  show own_cm5_2_Q Z ca b kc k x0 x1 h0 n0 _ T10.heap _
  rw [e10]
  exact ⟨rfl, N10, K14, V11⟩
theorem own_cm3_2_ef (m : MethodId) (ca : Addr) (kc : ClassId) (x0 : Int32) (x1 : Int32) : entryFrame m #[(.ref ca), (.int (0 : Int32)), (.int (2 : Int32))] 6 = mkF m 0 #[.val (.ref ca), .val (.int (0 : Int32)), .val (.int (2 : Int32)), .unset, .unset, .unset] [] := by first | (simp [entryFrame, mkF, argsToLocals, Value.category]; done) | rfl
def own_cm3_2_Q (Z : State) (ca : Addr) (kc : ClassId) (x0 : Int32) (x1 : Int32) (h0 : Heap) (n0 : Nat) (v : Option Value) (h : Heap) (L : List Loc) : Prop := ∃ b kb, v = some (.ref b) ∧ Fr n0 L ∧ Keep h0 h [] ∧ h0.size ≤ b ∧ Arv Z h b kb .byte (2 : Int32) [(.int (nar .byte (x0.toInt8.toInt32))), (.int (nar .byte (x1.toInt8.toInt32)))] (.int (0 : Int32))
set_option maxRecDepth 65536 in
set_option maxHeartbeats 40000000 in
theorem own_cm3_2 (l : Launch) (Z : State) (a0 : Array Value) (hw : ∀ d ∈ tables_1, d.before a0 Z = true) (ws : List Jvm.Cond) (ca : Addr) (kc : ClassId) (x0 : Int32) (x1 : Int32) (h0 : Heap) (n0 : Nat) (Z0 : n0 ≤ h0.size) (V_c : Arv Z h0 ca kc .char (2 : Int32) [(.int x0), (.int x1)] (.int (0 : Int32))) (le_x0 : ¬ (255 : Int32) < x0) (le_x1 : ¬ (255 : Int32) < x1) :
    MetFree l (⟨"java/lang/StringUTF16", "compress", "([CII)[B"⟩ : MethodName) (head1 (Jvm.Cond.code (⟨"java/lang/StringUTF16", "compress", "([CII)[B"⟩ : MethodName) jdk_52_method_16_code 6 (some (.array .byte)) :: ws) ({ frames := 1, cells := 1, slots := 2, locals := 18 } : Room)) (fun as_ U => as_ = #[(.ref ca), (.int (0 : Int32)), (.int (2 : Int32))] ∧ Z.Warmed39 U.vm ∧ U.heap = h0) (fun _ _ _ _ _ => True) (fun _ U_ o_ V_ => ∃ v_ L_, o_ = .returned v_ ∧ own_cm3_2_Q Z ca kc x0 x1 h0 n0 v_ V_.heap L_ ∧ FrameEnd U_ o_ V_ L_ ({ frames := 1, cells := 1, slots := 2, locals := 18 } : Room).cells ({ frames := 1, cells := 1, slots := 2, locals := 18 } : Room).slots) := by
  refine MetFree.of_bodySF (plainFor_of_name own_pn0) hisR ?_
  intro p e s m args below meth c s₁ Bd hml0 hP hK
  obtain ⟨rfl, hZ, hh⟩ := hP
  have hx := Bd.exec
  have hby := Bd.bytes
  have hml : c.maxLocals = 6 := hml0
  have hown : s.vm.findClass "java/lang/StringUTF16" = some m.cls := findClass_of_methodNamed Bd.named
  have hnm := (name_of_methodNamed Bd.named Bd.method).1
  have X0 : Stand p l e ({ frames := 1, cells := 1, slots := 2, locals := 18 } : Room) s m #[(.ref ca), (.int (0 : Int32)), (.int (2 : Int32))] below meth c s₁ [] 0 0 := Stand.of_body Bd
  have e0 : s₁.heap = h0 := by rw [← hh, Bd.state]; rfl
  have N0 := Fr.nil n0
  refine own_begin (own_cm3_2_ef m ca kc x0 x1) ?_
  show Ends p.tables e below (s₁.setTop (mkF m 0 #[.val (.ref ca), .val (.int (0 : Int32)), .val (.int (2 : Int32)), .unset, .unset, .unset] [])) _
  have Kr0 : Keep h0 h0 [] := Keep.refl h0 _
  refine s_iloadN (pc' := 1) X0.here hx (hb hby own_d11_0) rfl rfl ?_
  refine s_newP (pc' := 3) (cap := 2) X0 hx hZ (hw _ (List.mem_of_getElem? (i := 22) rfl)) e0 (hb hby own_d11_1) (by decide) (by decide) (by decide) (by decide) (by decide) rfl fun T1 hp1 X1 e1 ka1 E1 b gq1 A1 => ?_
  have g_b : n0 ≤ b := Nat.le_trans Z0 (Nat.le_of_eq gq1.symm)
  have sz_b : h0.size ≤ b := Nat.le_trans Kr0.1 (Nat.le_of_eq gq1.symm)
  have ne2 : ca ≠ b := Nat.ne_of_lt (Nat.lt_of_lt_of_le V_c.lt (Nat.le_of_eq gq1.symm))
  have f3 := V_c.ext E1
  have Z4 : n0 ≤ hp1.size := Nat.le_trans Z0 E1.1
  have K5 : Keep h0 hp1 [] := Kr0.ext E1
  have V6 : Arv Z hp1 b ka1 .byte (2 : Int32) [(.int (0 : Int32)), (.int (0 : Int32))] (.int (0 : Int32)) := (Arv.new A1 (by decide)).pad (pad_rep [] (.int (0 : Int32)) 2)
  refine s_astoreN (pc' := 4) X1.here hx (l' := #[.val (.ref ca), .val (.int (0 : Int32)), .val (.int (2 : Int32)), .val (.ref b), .unset, .unset]) (hb hby own_d11_3) rfl rfl rfl ?_
  refine s_aloadN (pc' := 5) X1.here hx (hb hby own_d11_4) rfl rfl rfl ?_
  refine s_iloadN (pc' := 6) X1.here hx (hb hby own_d11_5) rfl rfl ?_
  refine s_aloadN (pc' := 7) X1.here hx (hb hby own_d11_6) rfl rfl rfl ?_
  refine s_iconst (pc' := 8) X1.here hx (v := (0 : Int32)) (hb hby own_d11_7) rfl rfl ?_
  refine s_iloadN (pc' := 9) X1.here hx (hb hby own_d11_8) rfl rfl ?_
  refine s_callS (pc' := 12) (W := 0) X1 hx hZ  hown (hw _ (List.mem_of_getElem? (i := 77) rfl)) (hw _ (List.mem_of_getElem? (i := 78) rfl)) (hw _ (List.mem_of_getElem? (i := 75) rfl)) (hw _ (List.mem_of_getElem? (i := 79) rfl)) (by decide) e1 (own_cm5_2 l Z a0 hw [] ca b kc ka1 x0 x1 hp1 n0 Z4 f3 V6 ne2 g_b le_x0 le_x1) (by rw [hml]; rfl) [(.ref ca), (.int (0 : Int32)), (.ref b), (.int (0 : Int32)), (.int (2 : Int32))] [] rfl (lenOf own_pd0 rfl) rfl (Nat.le_of_eq rfl) (by decide) (by decide) (by decide) (by decide) rfl (hb hby own_d11_9) fun T7 v7 Lc7 X7 hQ7 => ?_
  obtain ⟨rfl, Nq7, Kq7, Vb⟩ := hQ7
  have N7 := Fr.app N0 Nq7
  have f8 := f3.keep Kq7 (ninS ne2 nin0)
  have Z9 : n0 ≤ T7.heap.size := Nat.le_trans Z4 Kq7.1
  have K10 : Keep h0 T7.heap [] := K5.trans Kq7 (allS (Or.inr sz_b) all0)
  show Ends p.tables e below (T7.setTop (mkF m 12 #[.val (.ref ca), .val (.int (0 : Int32)), .val (.int (2 : Int32)), .val (.ref b), .unset, .unset] [(.int (2 : Int32))])) _
  refine s_istore (pc' := 14) X7.here hx (l' := #[.val (.ref ca), .val (.int (0 : Int32)), .val (.int (2 : Int32)), .val (.ref b), .val (.int (2 : Int32)), .unset]) (hb hby own_d11_12) rfl rfl ?_
  refine s_iload (pc' := 16) X7.here hx (hb hby own_d11_14) rfl rfl ?_
  refine s_iloadN (pc' := 17) X7.here hx (hb hby own_d11_16) rfl rfl ?_
  have hk11 : (2 : Int32) = (2 : Int32) := rfl
  refine s_icmpYes (pc' := 57) X7.here hx (hb hby own_d11_17) (teq hk11).1 (by decide) (by decide) ?_
  refine s_aloadN (pc' := 58) X7.here hx (hb hby own_d11_57) rfl rfl rfl ?_
  obtain ⟨fs, hr, hrun, hended, hW, hsame⟩ := X7.leave (v := some (.ref b)) (fun h => by rw [Bd.returns] at h; cases h)
  refine ⟨_, _, retOut X7 hx Bd.returns rfl (Or.inr (Or.inr (Or.inr (Or.inr ⟨rfl, rfl, rfl⟩)))) (hb hby own_d11_58) hr, hrun, hended, _, _, rfl, ?_, ⟨_, rfl⟩, hW, hsame.mono (by decide) (by decide)⟩
  show own_cm3_2_Q Z ca kc x0 x1 h0 n0 _ T7.heap _
  exact ⟨b, ka1, rfl, N7, K10, sz_b, Vb⟩
theorem own_cfl_2_ef (m : MethodId) (b : Addr) (k : ClassId) (vs : List Value) : entryFrame m #[(.ref b), (.int (2 : Int32))] 2 = mkF m 0 #[.val (.ref b), .val (.int (2 : Int32))] [] := by first | (simp [entryFrame, mkF, argsToLocals, Value.category]; done) | rfl
def own_cfl_2_Q (Z : State) (b : Addr) (k : ClassId) (vs : List Value) (h0 : Heap) (n0 : Nat) (v : Option Value) (h : Heap) (L : List Loc) : Prop := v = some (.int 0) ∧ Fr n0 L ∧ h = h0
set_option maxRecDepth 65536 in
set_option maxHeartbeats 40000000 in
theorem own_cfl_2 (l : Launch) (Z : State) (a0 : Array Value) (hw : ∀ d ∈ tables_1, d.before a0 Z = true) (ws : List Jvm.Cond) (b : Addr) (k : ClassId) (vs : List Value) (h0 : Heap) (n0 : Nat) (Z0 : n0 ≤ h0.size) (V_b : Arv Z h0 b k .byte (2 : Int32) vs (.int (0 : Int32))) :
    MetFree l (⟨"java/lang/StringUTF16", "coderFromArrayLen", "([BI)B"⟩ : MethodName) (head1 (Jvm.Cond.code (⟨"java/lang/StringUTF16", "coderFromArrayLen", "([BI)B"⟩ : MethodName) jdk_52_method_15_code 2 (some .byte) :: ws) ({ frames := 0, cells := 0, slots := 0, locals := 0 } : Room)) (fun as_ U => as_ = #[(.ref b), (.int (2 : Int32))] ∧ Z.Warmed39 U.vm ∧ U.heap = h0) (fun _ _ _ _ _ => True) (fun _ U_ o_ V_ => ∃ v_ L_, o_ = .returned v_ ∧ own_cfl_2_Q Z b k vs h0 n0 v_ V_.heap L_ ∧ FrameEnd U_ o_ V_ L_ ({ frames := 0, cells := 0, slots := 0, locals := 0 } : Room).cells ({ frames := 0, cells := 0, slots := 0, locals := 0 } : Room).slots) := by
  refine MetFree.of_bodySF (plainFor_of_name own_pn0) hisR ?_
  intro p e s m args below meth c s₁ Bd hml0 hP hK
  obtain ⟨rfl, hZ, hh⟩ := hP
  have hx := Bd.exec
  have hby := Bd.bytes
  have hml : c.maxLocals = 2 := hml0
  have hown : s.vm.findClass "java/lang/StringUTF16" = some m.cls := findClass_of_methodNamed Bd.named
  have hnm := (name_of_methodNamed Bd.named Bd.method).1
  have X0 : Stand p l e ({ frames := 0, cells := 0, slots := 0, locals := 0 } : Room) s m #[(.ref b), (.int (2 : Int32))] below meth c s₁ [] 0 0 := Stand.of_body Bd
  have e0 : s₁.heap = h0 := by rw [← hh, Bd.state]; rfl
  have N0 := Fr.nil n0
  refine own_begin (own_cfl_2_ef m b k vs) ?_
  show Ends p.tables e below (s₁.setTop (mkF m 0 #[.val (.ref b), .val (.int (2 : Int32))] [])) _
  refine s_iloadN (pc' := 1) X0.here hx (hb hby own_d13_0) rfl rfl ?_
  refine s_aloadN (pc' := 2) X0.here hx (hb hby own_d13_1) rfl rfl rfl ?_
  refine s_arraylength (pc' := 3) X0 hx hZ e0 V_b (hb hby own_d13_2) rfl ?_
  refine s_isub (pc' := 4) X0.here hx (hb hby own_d13_3) rfl ?_
  refine s_bipush (pc' := 6) X0.here hx (v := (31 : Int32)) (hb hby own_d13_4) rfl rfl ?_
  refine s_iushr (pc' := 7) X0.here hx (hb hby own_d13_6) rfl ?_
  refine s_i2b (pc' := 8) X0.here hx (hb hby own_d13_7) rfl ?_
  obtain ⟨fs, hr, hrun, hended, hW, hsame⟩ := X0.leave (v := some (.int (0 : Int32))) (fun h => by rw [Bd.returns] at h; cases h)
  refine ⟨_, _, retN X0 hx (t := .byte) Bd.returns (by simp) (hb hby own_d13_8) hr, hrun, hended, _, _, rfl, ?_, ⟨_, rfl⟩, hW, hsame.mono (by decide) (by decide)⟩
  show own_cfl_2_Q Z b k vs h0 n0 _ s₁.heap _
  rw [e0]
  exact ⟨rfl, N0, rfl⟩
theorem own_si4_2_ef (m : MethodId) (a : Addr) (ca : Addr) (kc : ClassId) (cs : Int32) (x0 : Int32) (x1 : Int32) : entryFrame m #[(.ref a), (.ref ca), (.int (0 : Int32)), (.int (2 : Int32)), .null] 6 = mkF m 0 #[.val (.ref a), .val (.ref ca), .val (.int (0 : Int32)), .val (.int (2 : Int32)), .val .null, .unset] [] := by first | (simp [entryFrame, mkF, argsToLocals, Value.category]; done) | rfl
def own_si4_2_Q (Z : State) (a : Addr) (ca : Addr) (kc : ClassId) (cs : Int32) (x0 : Int32) (x1 : Int32) (h0 : Heap) (n0 : Nat) (v : Option Value) (h : Heap) (L : List Loc) : Prop := ∃ b kb, v = none ∧ Fr n0 L ∧ Keep h0 h [a] ∧ h0.size ≤ b ∧ Exa Z h a "java/lang/String" ∧ Fld Z h a "java/lang/String" "coder" "B" (.int (0 : Int32)) ∧ Fld Z h a "java/lang/String" "value" "[B" (.ref b) ∧ Arv Z h b kb .byte (2 : Int32) [(.int (nar .byte (x0.toInt8.toInt32))), (.int (nar .byte (x1.toInt8.toInt32)))] (.int (0 : Int32))
set_option maxRecDepth 65536 in
set_option maxHeartbeats 40000000 in
theorem own_si4_2 (l : Launch) (Z : State) (a0 : Array Value) (hw : ∀ d ∈ tables_1, d.before a0 Z = true) (ws : List Jvm.Cond) (a : Addr) (ca : Addr) (kc : ClassId) (cs : Int32) (x0 : Int32) (x1 : Int32) (h0 : Heap) (n0 : Nat) (Z0 : n0 ≤ h0.size) (O0 : Old Z n0 h0) (S_cs : Sta Z Z.heap "java/lang/String" "COMPACT_STRINGS" "Z" (.int cs)) (hcs : ¬ cs = (0 : Int32)) (F_v : Fld Z h0 a "java/lang/String" "value" "[B" .null) (F_c : Fld Z h0 a "java/lang/String" "coder" "B" (.int (0 : Int32))) (E_a : Exa Z h0 a "java/lang/String") (g_a : n0 ≤ a) (V_c : Arv Z h0 ca kc .char (2 : Int32) [(.int x0), (.int x1)] (.int (0 : Int32))) (le_x0 : ¬ (255 : Int32) < x0) (le_x1 : ¬ (255 : Int32) < x1) :
    MetFree l (⟨"java/lang/String", "<init>", "([CIILjava/lang/Void;)V"⟩ : MethodName) (head1 (Jvm.Cond.code (⟨"java/lang/String", "<init>", "([CIILjava/lang/Void;)V"⟩ : MethodName) jdk_42_method_149_code 6 none :: ws) ({ frames := 2, cells := 1, slots := 2, locals := 35 } : Room)) (fun as_ U => as_ = #[(.ref a), (.ref ca), (.int (0 : Int32)), (.int (2 : Int32)), .null] ∧ Z.Warmed39 U.vm ∧ U.heap = h0) (fun _ _ _ _ _ => True) (fun _ U_ o_ V_ => ∃ v_ L_, o_ = .returned v_ ∧ own_si4_2_Q Z a ca kc cs x0 x1 h0 n0 v_ V_.heap L_ ∧ FrameEnd U_ o_ V_ L_ ({ frames := 2, cells := 1, slots := 2, locals := 35 } : Room).cells ({ frames := 2, cells := 1, slots := 2, locals := 35 } : Room).slots) := by
  refine MetFree.of_bodySF (plainFor_of_name own_pn1) hisR ?_
  intro p e s m args below meth c s₁ Bd hml0 hP hK
  obtain ⟨rfl, hZ, hh⟩ := hP
  have hx := Bd.exec
  have hby := Bd.bytes
  have hml : c.maxLocals = 6 := hml0
  have hown : s.vm.findClass "java/lang/String" = some m.cls := findClass_of_methodNamed Bd.named
  have hnm := (name_of_methodNamed Bd.named Bd.method).1
  have X0 : Stand p l e ({ frames := 2, cells := 1, slots := 2, locals := 35 } : Room) s m #[(.ref a), (.ref ca), (.int (0 : Int32)), (.int (2 : Int32)), .null] below meth c s₁ [] 0 0 := Stand.of_body Bd
  have e0 : s₁.heap = h0 := by rw [← hh, Bd.state]; rfl
  have N0 := Fr.nil n0
  refine own_begin (own_si4_2_ef m a ca kc cs x0 x1) ?_
  show Ends p.tables e below (s₁.setTop (mkF m 0 #[.val (.ref a), .val (.ref ca), .val (.int (0 : Int32)), .val (.int (2 : Int32)), .val .null, .unset] [])) _
  have Kr0 : Keep h0 h0 [a] := Keep.refl h0 _
  refine s_aloadN (pc' := 1) X0.here hx (hb hby own_d3_0) rfl rfl rfl ?_
  refine s_initO (pc' := 4) (W := 0) X0 hx hZ hown (hw _ (List.mem_of_getElem? (i := 18) rfl)) (hw _ (List.mem_of_getElem? (i := 19) rfl)) (hw _ (List.mem_of_getElem? (i := 20) rfl)) e0 (by rw [hml]; rfl) (hb hby own_d3_1) (by decide) (Nat.le_of_eq rfl) (by decide) rfl fun T1 X1 e1 => ?_
  refine s_iloadN (pc' := 5) X1.here hx (hb hby own_d3_4) rfl rfl ?_
  have hk2 : ¬ ((2 : Int32) = (0 : Int32)) := by decide
  refine s_ifYes (pc' := 27) X1.here hx (hb hby own_d3_5) ((if0 _ _).trans (feq hk2).2) (by decide) (by decide) ?_
  refine s_getS (pc' := 30) X1 hx hZ hown (host := "") (Or.inl (hw _ (List.mem_of_getElem? (i := 66) rfl))) Via.refl e1 (S_cs.ext O0.2) (hb hby own_d3_27) rfl fun T3 X3 e3 => ?_
  have hk4 : ¬ (cs = (0 : Int32)) := hcs
  refine s_ifNo (pc' := 33) X3.here hx (hb hby own_d3_30) ((if0 _ _).trans (feq hk4).1) rfl ?_
  refine s_aloadN (pc' := 34) X3.here hx (hb hby own_d3_33) rfl rfl rfl ?_
  refine s_iloadN (pc' := 35) X3.here hx (hb hby own_d3_34) rfl rfl ?_
  refine s_iloadN (pc' := 36) X3.here hx (hb hby own_d3_35) rfl rfl ?_
  refine s_callS (pc' := 39) (W := 0) X3 hx hZ  hown (hw _ (List.mem_of_getElem? (i := 73) rfl)) (hw _ (List.mem_of_getElem? (i := 74) rfl)) (hw _ (List.mem_of_getElem? (i := 75) rfl)) (hw _ (List.mem_of_getElem? (i := 76) rfl)) (by decide) e3 (own_cm3_2 l Z a0 hw [] ca kc x0 x1 h0 n0 Z0 V_c le_x0 le_x1) (by rw [hml]; rfl) [(.ref ca), (.int (0 : Int32)), (.int (2 : Int32))] [] rfl (lenOf own_pd1 rfl) rfl (Nat.le_of_eq rfl) (by decide) (by decide) (by decide) (by decide) rfl (hb hby own_d3_36) fun T5 v5 Lc5 X5 hQ5 => ?_
  obtain ⟨b, kb, rfl, Nq5, Kq5, szb, Vb⟩ := hQ5
  have g_b : n0 ≤ b := Nat.le_trans Z0 szb
  have sz_b : h0.size ≤ b := Nat.le_trans Kr0.1 szb
  have ne6 : a ≠ b := Nat.ne_of_lt (Nat.lt_of_lt_of_le F_v.lt szb)
  have ne7 : ca ≠ b := Nat.ne_of_lt (Nat.lt_of_lt_of_le V_c.lt szb)
  have O8 := O0.keep Kq5 all0
  have N5 := Fr.app N0 Nq5
  have f9 := F_v.keep Kq5 nin0
  have f10 := F_c.keep Kq5 nin0
  have f11 := E_a.keep Kq5
  have f12 := V_c.keep Kq5 nin0
  have Z13 : n0 ≤ T5.heap.size := Nat.le_trans Z0 Kq5.1
  have K14 : Keep h0 T5.heap [a] := Kr0.trans Kq5 all0
  show Ends p.tables e below (T5.setTop (mkF m 39 #[.val (.ref a), .val (.ref ca), .val (.int (0 : Int32)), .val (.int (2 : Int32)), .val .null, .unset] [(.ref b)])) _
  refine s_astore (pc' := 41) X5.here hx (l' := #[.val (.ref a), .val (.ref ca), .val (.int (0 : Int32)), .val (.int (2 : Int32)), .val .null, .val (.ref b)]) (hb hby own_d3_39) rfl rfl rfl ?_
  refine s_aloadN (pc' := 42) X5.here hx (hb hby own_d3_41) rfl rfl rfl ?_
  refine s_aload (pc' := 44) X5.here hx (hb hby own_d3_42) rfl rfl rfl ?_
  refine s_iloadN (pc' := 45) X5.here hx (hb hby own_d3_44) rfl rfl ?_
  refine s_callS (pc' := 48) (W := 1) X5 hx hZ  hown (hw _ (List.mem_of_getElem? (i := 80) rfl)) (hw _ (List.mem_of_getElem? (i := 81) rfl)) (hw _ (List.mem_of_getElem? (i := 75) rfl)) (hw _ (List.mem_of_getElem? (i := 82) rfl)) (by decide) rfl (own_cfl_2 l Z a0 hw [] b kb [(.int (nar .byte (x0.toInt8.toInt32))), (.int (nar .byte (x1.toInt8.toInt32)))] T5.heap n0 Z13 Vb) (by rw [hml]; rfl) [(.ref b), (.int (2 : Int32))] [(.ref a)] rfl (lenOf own_pd2 rfl) rfl (Nat.le_of_eq rfl) (by decide) (by decide) (by decide) (by decide) rfl (hb hby own_d3_45) fun T15 v15 Lc15 X15 hQ15 => ?_
  obtain ⟨rfl, Nq15, eh15⟩ := hQ15
  have N15 := Fr.app N5 Nq15
  show Ends p.tables e below (T15.setTop (mkF m 48 #[.val (.ref a), .val (.ref ca), .val (.int (0 : Int32)), .val (.int (2 : Int32)), .val .null, .val (.ref b)] [(.int (0 : Int32)), (.ref a)])) _
  refine s_putFN (pc' := 51) (v' := (.int (0 : Int32))) (ty := .byte) X15 hx hZ hown (hw _ (List.mem_of_getElem? (i := 28) rfl)) Via.refl eh15 f10 f11 (Or.inr ⟨(hw _ (List.mem_of_getElem? (i := 24) rfl)), rfl, hnm⟩) (hw _ (List.mem_of_getElem? (i := 8) rfl)) (by decide) rfl rfl (hb hby own_d3_48) rfl fun T16 hp16 X16 e16 W16 => ?_
  have N16 := Fr.snoc X16 N15 g_a
  have O17 := O8.wr W16 g_a
  have f18 := f9.other W16 (Or.inr (slot_ne (Or.inr (hw _ (List.mem_of_getElem? (i := 23) rfl))) (Or.inr (hw _ (List.mem_of_getElem? (i := 24) rfl))) (by decide) (t := (.array .byte)) (t' := .byte) (by decide) (by decide)))
  have f19 := f10.same W16
  have f20 := f11.wr W16
  have f21 := Vb.other W16 (Ne.symm ne6)
  have Z22 : n0 ≤ hp16.size := Nat.le_trans Z13 (Keep.of_wr W16).1
  have K23 : Keep h0 hp16 [a] := K14.wr W16 (Or.inl (List.mem_of_getElem? (i := 0) rfl))
  refine s_aloadN (pc' := 52) X16.here hx (hb hby own_d3_51) rfl rfl rfl ?_
  refine s_aload (pc' := 54) X16.here hx (hb hby own_d3_52) rfl rfl rfl ?_
  refine s_putF (pc' := 57) (ty := (.array .byte)) X16 hx hZ hown (host := "") (Or.inl (hw _ (List.mem_of_getElem? (i := 27) rfl))) Via.refl e16 f18 f20 (Or.inr ⟨(hw _ (List.mem_of_getElem? (i := 23) rfl)), rfl, hnm⟩) (hw _ (List.mem_of_getElem? (i := 8) rfl)) (by decide) rfl rfl (hb hby own_d3_54) rfl fun T24 hp24 X24 e24 W24 => ?_
  have N24 := Fr.snoc X24 N16 g_a
  have O25 := O17.wr W24 g_a
  have f26 := f18.same W24
  have f27 := f19.other W24 (Or.inr (slot_ne (Or.inr (hw _ (List.mem_of_getElem? (i := 24) rfl))) (Or.inr (hw _ (List.mem_of_getElem? (i := 23) rfl))) (by decide) (t := .byte) (t' := (.array .byte)) (by decide) (by decide)))
  have f28 := f20.wr W24
  have f29 := f21.other W24 (Ne.symm ne6)
  have Z30 : n0 ≤ hp24.size := Nat.le_trans Z22 (Keep.of_wr W24).1
  have K31 : Keep h0 hp24 [a] := K23.wr W24 (Or.inl (List.mem_of_getElem? (i := 0) rfl))
  obtain ⟨fs, hr, hrun, hended, hW, hsame⟩ := X24.leave (v := none) (fun _ => rfl)
  refine ⟨_, _, X24.returnOut hx Bd.returns (hb hby own_d3_57) hr, hrun, hended, _, _, rfl, ?_, ⟨_, rfl⟩, hW, hsame.mono (by decide) (by decide)⟩
  show own_si4_2_Q Z a ca kc cs x0 x1 h0 n0 _ T24.heap _
  rw [e24]
  exact ⟨b, kb, rfl, N24, K31, sz_b, f28, f27, f26, f29⟩
theorem own_si1_2_ef (m : MethodId) (a : Addr) (ca : Addr) (kc : ClassId) (cs : Int32) (x0 : Int32) (x1 : Int32) : entryFrame m #[(.ref a), (.ref ca)] 2 = mkF m 0 #[.val (.ref a), .val (.ref ca)] [] := by first | (simp [entryFrame, mkF, argsToLocals, Value.category]; done) | rfl
def own_si1_2_Q (Z : State) (a : Addr) (ca : Addr) (kc : ClassId) (cs : Int32) (x0 : Int32) (x1 : Int32) (h0 : Heap) (n0 : Nat) (v : Option Value) (h : Heap) (L : List Loc) : Prop := ∃ b kb, v = none ∧ Fr n0 L ∧ Keep h0 h [a] ∧ h0.size ≤ b ∧ Exa Z h a "java/lang/String" ∧ Fld Z h a "java/lang/String" "coder" "B" (.int (0 : Int32)) ∧ Fld Z h a "java/lang/String" "value" "[B" (.ref b) ∧ Arv Z h b kb .byte (2 : Int32) [(.int (nar .byte (x0.toInt8.toInt32))), (.int (nar .byte (x1.toInt8.toInt32)))] (.int (0 : Int32))
set_option maxRecDepth 65536 in
set_option maxHeartbeats 40000000 in
theorem own_si1_2 (l : Launch) (Z : State) (a0 : Array Value) (hw : ∀ d ∈ tables_1, d.before a0 Z = true) (ws : List Jvm.Cond) (a : Addr) (ca : Addr) (kc : ClassId) (cs : Int32) (x0 : Int32) (x1 : Int32) (h0 : Heap) (n0 : Nat) (Z0 : n0 ≤ h0.size) (O0 : Old Z n0 h0) (S_cs : Sta Z Z.heap "java/lang/String" "COMPACT_STRINGS" "Z" (.int cs)) (hcs : ¬ cs = (0 : Int32)) (F_v : Fld Z h0 a "java/lang/String" "value" "[B" .null) (F_c : Fld Z h0 a "java/lang/String" "coder" "B" (.int (0 : Int32))) (E_a : Exa Z h0 a "java/lang/String") (g_a : n0 ≤ a) (V_c : Arv Z h0 ca kc .char (2 : Int32) [(.int x0), (.int x1)] (.int (0 : Int32))) (le_x0 : ¬ (255 : Int32) < x0) (le_x1 : ¬ (255 : Int32) < x1) :
    MetFree l (⟨"java/lang/String", "<init>", "([C)V"⟩ : MethodName) (head1 (Jvm.Cond.code (⟨"java/lang/String", "<init>", "([C)V"⟩ : MethodName) jdk_42_method_3_code 2 none :: ws) ({ frames := 3, cells := 1, slots := 2, locals := 52 } : Room)) (fun as_ U => as_ = #[(.ref a), (.ref ca)] ∧ Z.Warmed39 U.vm ∧ U.heap = h0) (fun _ _ _ _ _ => True) (fun _ U_ o_ V_ => ∃ v_ L_, o_ = .returned v_ ∧ own_si1_2_Q Z a ca kc cs x0 x1 h0 n0 v_ V_.heap L_ ∧ FrameEnd U_ o_ V_ L_ ({ frames := 3, cells := 1, slots := 2, locals := 52 } : Room).cells ({ frames := 3, cells := 1, slots := 2, locals := 52 } : Room).slots) := by
  refine MetFree.of_bodySF (plainFor_of_name own_pn1) hisR ?_
  intro p e s m args below meth c s₁ Bd hml0 hP hK
  obtain ⟨rfl, hZ, hh⟩ := hP
  have hx := Bd.exec
  have hby := Bd.bytes
  have hml : c.maxLocals = 2 := hml0
  have hown : s.vm.findClass "java/lang/String" = some m.cls := findClass_of_methodNamed Bd.named
  have hnm := (name_of_methodNamed Bd.named Bd.method).1
  have X0 : Stand p l e ({ frames := 3, cells := 1, slots := 2, locals := 52 } : Room) s m #[(.ref a), (.ref ca)] below meth c s₁ [] 0 0 := Stand.of_body Bd
  have e0 : s₁.heap = h0 := by rw [← hh, Bd.state]; rfl
  have N0 := Fr.nil n0
  refine own_begin (own_si1_2_ef m a ca kc cs x0 x1) ?_
  show Ends p.tables e below (s₁.setTop (mkF m 0 #[.val (.ref a), .val (.ref ca)] [])) _
  have Kr0 : Keep h0 h0 [a] := Keep.refl h0 _
  refine s_aloadN (pc' := 1) X0.here hx (hb hby own_d2_0) rfl rfl rfl ?_
  refine s_aloadN (pc' := 2) X0.here hx (hb hby own_d2_1) rfl rfl rfl ?_
  refine s_iconst (pc' := 3) X0.here hx (v := (0 : Int32)) (hb hby own_d2_2) rfl rfl ?_
  refine s_aloadN (pc' := 4) X0.here hx (hb hby own_d2_3) rfl rfl rfl ?_
  refine s_arraylength (pc' := 5) X0 hx hZ e0 V_c (hb hby own_d2_4) rfl ?_
  refine s_aconstNull (pc' := 6) X0.here hx (hb hby own_d2_5) rfl ?_
  refine s_callI (pc' := 9) (W := 0) X0 hx hZ  rfl hown (hw _ (List.mem_of_getElem? (i := 14) rfl)) (hw _ (List.mem_of_getElem? (i := 15) rfl)) (hw _ (List.mem_of_getElem? (i := 9) rfl)) (hw _ (List.mem_of_getElem? (i := 17) rfl)) (by decide) e0 (own_si4_2 l Z a0 hw [] a ca kc cs x0 x1 h0 n0 Z0 O0 S_cs hcs F_v F_c E_a g_a V_c le_x0 le_x1) a (by rw [hml]; rfl) [(.ref ca), (.int (0 : Int32)), (.int (2 : Int32)), .null] [] rfl (lenOf own_pd3 rfl) rfl (Nat.le_of_eq rfl) (by decide) (by decide) (by decide) (by decide) rfl (hb hby own_d2_6) fun T1 v1 Lc1 X1 hQ1 => ?_
  obtain ⟨b, kb, rfl, Nq1, Kq1, szb, Ea, Fc, Fv, Vb⟩ := hQ1
  have O2 := O0.keep Kq1 (allS g_a all0)
  have N1 := Fr.app N0 Nq1
  have f3 := E_a.keep Kq1
  have Z4 : n0 ≤ T1.heap.size := Nat.le_trans Z0 Kq1.1
  have K5 : Keep h0 T1.heap [a] := Kr0.trans Kq1 (allS (Or.inl (List.mem_of_getElem? (i := 0) rfl)) all0)
  show Ends p.tables e below (T1.setTop (mkF m 9 #[.val (.ref a), .val (.ref ca)] [])) _
  obtain ⟨fs, hr, hrun, hended, hW, hsame⟩ := X1.leave (v := none) (fun _ => rfl)
  refine ⟨_, _, X1.returnOut hx Bd.returns (hb hby own_d2_9) hr, hrun, hended, _, _, rfl, ?_, ⟨_, rfl⟩, hW, hsame.mono (by decide) (by decide)⟩
  show own_si1_2_Q Z a ca kc cs x0 x1 h0 n0 _ T1.heap _
  exact ⟨b, kb, rfl, N1, K5, szb, Ea, Fc, Fv, Vb⟩
theorem own_d3_8 : decode jdk_42_method_149_code 8 = .ok (.aload_n 0, 1) := by decide +kernel
theorem own_d3_9 : decode jdk_42_method_149_code 9 = .ok (.ldc 7, 2) := by decide +kernel
theorem own_d3_11 : decode jdk_42_method_149_code 11 = .ok (.getfield 9, 3) := by decide +kernel
theorem own_d3_14 : decode jdk_42_method_149_code 14 = .ok (.putfield 9, 3) := by decide +kernel
theorem own_d3_17 : decode jdk_42_method_149_code 17 = .ok (.aload_n 0, 1) := by decide +kernel
theorem own_d3_18 : decode jdk_42_method_149_code 18 = .ok (.ldc 7, 2) := by decide +kernel
theorem own_d3_20 : decode jdk_42_method_149_code 20 = .ok (.getfield 15, 3) := by decide +kernel
theorem own_d3_23 : decode jdk_42_method_149_code 23 = .ok (.putfield 15, 3) := by decide +kernel
theorem own_d3_26 : decode jdk_42_method_149_code 26 = .ok (.return_, 1) := by decide +kernel
theorem own_si4_0_ef (m : MethodId) (a : Addr) (ca : Addr) : entryFrame m #[(.ref a), (.ref ca), (.int (0 : Int32)), (.int (0 : Int32)), .null] 6 = mkF m 0 #[.val (.ref a), .val (.ref ca), .val (.int (0 : Int32)), .val (.int (0 : Int32)), .val .null, .unset] [] := by first | (simp [entryFrame, mkF, argsToLocals, Value.category]; done) | rfl
def own_si4_0_Q (Z : State) (a : Addr) (ca : Addr) (h0 : Heap) (n0 : Nat) (v : Option Value) (h : Heap) (L : List Loc) : Prop := ∃ b kb, v = none ∧ Fr n0 L ∧ Keep h0 h [a] ∧ Exa Z h a "java/lang/String" ∧ Fld Z h a "java/lang/String" "coder" "B" (.int (0 : Int32)) ∧ Fld Z h a "java/lang/String" "value" "[B" (.ref b) ∧ Arv Z h b kb .byte (0 : Int32) [] (.int (0 : Int32))
set_option maxRecDepth 65536 in
set_option maxHeartbeats 40000000 in
theorem own_si4_0 (l : Launch) (Z : State) (a0 : Array Value) (hw : ∀ d ∈ tables_1, d.before a0 Z = true) (ws : List Jvm.Cond) (a : Addr) (ca : Addr) (h0 : Heap) (n0 : Nat) (Z0 : n0 ≤ h0.size) (F_v : Fld Z h0 a "java/lang/String" "value" "[B" .null) (F_c : Fld Z h0 a "java/lang/String" "coder" "B" (.int (0 : Int32))) (E_a : Exa Z h0 a "java/lang/String") (g_a : n0 ≤ a) :
    MetFree l (⟨"java/lang/String", "<init>", "([CIILjava/lang/Void;)V"⟩ : MethodName) (head1 (Jvm.Cond.code (⟨"java/lang/String", "<init>", "([CIILjava/lang/Void;)V"⟩ : MethodName) jdk_42_method_149_code 6 none :: ws) ({ frames := 1, cells := 4, slots := 8, locals := 12 } : Room)) (fun as_ U => as_ = #[(.ref a), (.ref ca), (.int (0 : Int32)), (.int (0 : Int32)), .null] ∧ Z.Warmed39 U.vm ∧ U.heap = h0 ∧ CHv Z consts_1 U.vm h0 ∧ ∀ x_ ∈ ([a] : List Addr), Safe Z consts_1 U.vm h0 x_) (fun _ _ _ _ _ => True) (fun _ U_ o_ V_ => ∃ v_ L_, o_ = .returned v_ ∧ own_si4_0_Q Z a ca h0 n0 v_ V_.heap L_ ∧ CHr Z consts_1 U_.vm U_.heap V_.vm V_.heap ∧ ReturnedEndW U_ o_ V_ L_ ({ frames := 1, cells := 4, slots := 8, locals := 12 } : Room).cells ({ frames := 1, cells := 4, slots := 8, locals := 12 } : Room).slots) := by
  refine MetFree.of_bodySF (plainFor_of_name own_pn1) hisR ?_
  intro p e s m args below meth c s₁ Bd hml0 hP hK
  obtain ⟨rfl, hZ, hh, HC0, hsf0⟩ := hP
  have hx := Bd.exec
  have hby := Bd.bytes
  have hml : c.maxLocals = 6 := hml0
  have hown : s.vm.findClass "java/lang/String" = some m.cls := findClass_of_methodNamed Bd.named
  have hnm := (name_of_methodNamed Bd.named Bd.method).1
  have X0 : Stand p l e ({ frames := 1, cells := 4, slots := 8, locals := 12 } : Room) s m #[(.ref a), (.ref ca), (.int (0 : Int32)), (.int (0 : Int32)), .null] below meth c s₁ [] 0 0 := Stand.of_body Bd
  have e0 : s₁.heap = h0 := by rw [← hh, Bd.state]; rfl
  have N0 := Fr.nil n0
  refine own_begin (own_si4_0_ef m a ca) ?_
  show Ends p.tables e below (s₁.setTop (mkF m 0 #[.val (.ref a), .val (.ref ca), .val (.int (0 : Int32)), .val (.int (0 : Int32)), .val .null, .unset] [])) _
  have Kr0 : Keep h0 h0 [a] := Keep.refl h0 _
  have HR0 : CHr Z consts_1 s.vm h0 s.vm h0 := CHr.refl HC0
  have sf_a := hsf0 a (List.mem_of_getElem? (i := 0) rfl)
  have X0w : Stand p l e ({ frames := 1, cells := 4, slots := 8, locals := 12 } : Room) (s.setVm s.vm) m #[(.ref a), (.ref ca), (.int (0 : Int32)), (.int (0 : Int32)), .null] below meth c s₁ [] 0 0 := X0
  have hS : s.Since s.vm 0 := (State.WarmedH.refl s).since 0
  have hk : 0 ≤ h0.size := Nat.zero_le _
  refine s_aloadN (pc' := 1) X0w.here hx (hb hby own_d3_0) rfl rfl rfl ?_
  refine s_initO (pc' := 4) (W := 0) X0w hx hZ hown (hw _ (List.mem_of_getElem? (i := 18) rfl)) (hw _ (List.mem_of_getElem? (i := 19) rfl)) (hw _ (List.mem_of_getElem? (i := 20) rfl)) e0 (by rw [hml]; rfl) (hb hby own_d3_1) (by decide) (Nat.le_of_eq rfl) (by decide) rfl fun T1 X1 e1 => ?_
  refine s_iloadN (pc' := 5) X1.here hx (hb hby own_d3_4) rfl rfl ?_
  have hk2 : (0 : Int32) = (0 : Int32) := rfl
  refine s_ifNo (pc' := 8) X1.here hx (hb hby own_d3_5) ((if0 _ _).trans (teq hk2).2) rfl ?_
  refine s_aloadN (pc' := 9) X1.here hx (hb hby own_d3_8) rfl rfl rfl ?_
  refine s_ldcCH (pc' := 11) (n := 0) (z := (0 : Int32)) (vs := []) X1 hx hZ hS hk (own_EW hw) HC0 hown (hw _ (List.mem_of_getElem? (i := 21) rfl)) (own_wS hw) e1 (List.mem_of_getElem? (i := 4) rfl) ⟨by decide, by decide⟩ (by decide) rfl (hb hby own_d3_9) (by decide) (by decide) (by decide) (by decide) rfl fun l1 m1 kb3 T3 hp3 kx3 X3 e3 E3 hS hk' hZ hown hr3 Ex3 Fc3 Fv3 Vb3 hne3 => ?_
  have sf4 := CHr.safe hr3 F_v.lt sf_a
  have HR5 := CHr.trans HR0 (hr3)
  have HC6 := hr3.1
  have f7 := F_v.ext E3
  have f8 := F_c.ext E3
  have f9 := E_a.ext E3
  have Z10 : n0 ≤ hp3.size := Nat.le_trans Z0 E3.1
  have K11 : Keep h0 hp3 [a] := Kr0.ext E3
  replace hk := hk'
  have ne12 := hne3 a sf4
  refine s_getF (pc' := 14) X3 hx hZ hown (host := "") (Or.inl (hw _ (List.mem_of_getElem? (i := 27) rfl))) Via.refl e3 Fv3 (hb hby own_d3_11) rfl fun T13 X13 e13 => ?_
  refine s_putF (pc' := 17) (ty := (.array .byte)) X13 hx hZ hown (host := "") (Or.inl (hw _ (List.mem_of_getElem? (i := 27) rfl))) Via.refl e13 f7 f9 (Or.inr ⟨(hw _ (List.mem_of_getElem? (i := 23) rfl)), rfl, hnm⟩) (hw _ (List.mem_of_getElem? (i := 8) rfl)) (by decide) rfl rfl (hb hby own_d3_14) rfl fun T14 hp14 X14 e14 W14 => ?_
  have N14 := Fr.snoc X14 N0 g_a
  have sf15 := Safe.wr W14 sf4 HC6 sf4
  have HR16 := CHr.trans HR5 (CHr.wr W14 sf4 HC6)
  have HC17 := CHv.wr W14 sf4 HC6
  have f18 := f7.same W14
  have f19 := f8.other W14 (Or.inr (slot_ne (Or.inr (hw _ (List.mem_of_getElem? (i := 24) rfl))) (Or.inr (hw _ (List.mem_of_getElem? (i := 23) rfl))) (by decide) (t := .byte) (t' := (.array .byte)) (by decide) (by decide)))
  have f20 := f9.wr W14
  have f21 := Ex3.wr W14
  have f22 := Fc3.other W14 (Or.inl (Ne.symm ne12.1))
  have f23 := Fv3.other W14 (Or.inl (Ne.symm ne12.1))
  have f24 := Vb3.other W14 (Ne.symm ne12.2)
  replace hk := Nat.le_trans hk (Keep.of_wr W14).1
  have Z25 : n0 ≤ hp14.size := Nat.le_trans Z10 (Keep.of_wr W14).1
  have K26 : Keep h0 hp14 [a] := K11.wr W14 (Or.inl (List.mem_of_getElem? (i := 0) rfl))
  refine s_aloadN (pc' := 18) X14.here hx (hb hby own_d3_17) rfl rfl rfl ?_
  refine s_ldcCH (pc' := 20) (n := 0) (z := (0 : Int32)) (vs := []) X14 hx hZ hS hk (own_EW hw) HC17 hown (hw _ (List.mem_of_getElem? (i := 21) rfl)) (own_wS hw) e14 (List.mem_of_getElem? (i := 4) rfl) ⟨by decide, by decide⟩ (by decide) rfl (hb hby own_d3_18) (by decide) (by decide) (by decide) (by decide) rfl fun l2 m2 kb27 T27 hp27 kx27 X27 e27 E27 hS hk' hZ hown hr27 Ex27 Fc27 Fv27 Vb27 hne27 => ?_
  have sf28 := CHr.safe hr27 f18.lt sf15
  have HR29 := CHr.trans HR16 (hr27)
  have HC30 := hr27.1
  have f31 := f18.ext E27
  have f32 := f19.ext E27
  have f33 := f20.ext E27
  have f34 := f21.ext E27
  have f35 := f22.ext E27
  have f36 := f23.ext E27
  have f37 := f24.ext E27
  have Z38 : n0 ≤ hp27.size := Nat.le_trans Z25 E27.1
  have K39 : Keep h0 hp27 [a] := K26.ext E27
  replace hk := hk'
  have ne40 := hne27 a sf28
  refine s_getF (pc' := 23) X27 hx hZ hown (host := "") (Or.inl (hw _ (List.mem_of_getElem? (i := 28) rfl))) Via.refl e27 Fc27 (hb hby own_d3_20) rfl fun T41 X41 e41 => ?_
  refine s_putFN (pc' := 26) (v' := (.int (0 : Int32))) (ty := .byte) X41 hx hZ hown (hw _ (List.mem_of_getElem? (i := 28) rfl)) Via.refl e41 f32 f33 (Or.inr ⟨(hw _ (List.mem_of_getElem? (i := 24) rfl)), rfl, hnm⟩) (hw _ (List.mem_of_getElem? (i := 8) rfl)) (by decide) rfl rfl (hb hby own_d3_23) rfl fun T42 hp42 X42 e42 W42 => ?_
  have N42 := Fr.snoc X42 N14 g_a
  have sf43 := Safe.wr W42 sf28 HC30 sf28
  have HR44 := CHr.trans HR29 (CHr.wr W42 sf28 HC30)
  have HC45 := CHv.wr W42 sf28 HC30
  have f46 := f31.other W42 (Or.inr (slot_ne (Or.inr (hw _ (List.mem_of_getElem? (i := 23) rfl))) (Or.inr (hw _ (List.mem_of_getElem? (i := 24) rfl))) (by decide) (t := (.array .byte)) (t' := .byte) (by decide) (by decide)))
  have f47 := f32.same W42
  have f48 := f33.wr W42
  have f49 := f34.wr W42
  have f50 := f35.other W42 (Or.inl (Ne.symm ne12.1))
  have f51 := f36.other W42 (Or.inl (Ne.symm ne12.1))
  have f52 := f37.other W42 (Ne.symm ne12.2)
  have f53 := Ex27.wr W42
  have f54 := Fc27.other W42 (Or.inl (Ne.symm ne40.1))
  have f55 := Fv27.other W42 (Or.inl (Ne.symm ne40.1))
  have f56 := Vb27.other W42 (Ne.symm ne40.2)
  replace hk := Nat.le_trans hk (Keep.of_wr W42).1
  have Z57 : n0 ≤ hp42.size := Nat.le_trans Z38 (Keep.of_wr W42).1
  have K58 : Keep h0 hp42 [a] := K39.wr W42 (Or.inl (List.mem_of_getElem? (i := 0) rfl))
  obtain ⟨fs, hr, hrun, hended, hRW⟩ := X42.leaveW hS (show _ ≤ T42.heap.size from by rw [e42]; exact hk) (v := none) (fun _ => rfl)
  have hfin : CHr Z consts_1 s.vm s.heap T42.vm T42.heap := by rw [hh, e42]; exact CHr.trans HR44 (CHv.at X42 hZ (own_EW hw) HC45)
  refine ⟨_, _, X42.returnOut hx Bd.returns (hb hby own_d3_26) hr, hrun, hended, _, _, rfl, ?_, hfin, own_rwm hRW (by decide) (by decide)⟩
  show own_si4_0_Q Z a ca h0 n0 _ T42.heap _
  rw [e42]
  exact ⟨m1, kb3, rfl, N42, K58, f48, f47, f46, f52⟩
theorem own_si1_0_ef (m : MethodId) (a : Addr) (ca : Addr) (kc : ClassId) : entryFrame m #[(.ref a), (.ref ca)] 2 = mkF m 0 #[.val (.ref a), .val (.ref ca)] [] := by first | (simp [entryFrame, mkF, argsToLocals, Value.category]; done) | rfl
def own_si1_0_Q (Z : State) (a : Addr) (ca : Addr) (kc : ClassId) (h0 : Heap) (n0 : Nat) (v : Option Value) (h : Heap) (L : List Loc) : Prop := ∃ b kb, v = none ∧ Fr n0 L ∧ Keep h0 h [a] ∧ Exa Z h a "java/lang/String" ∧ Fld Z h a "java/lang/String" "coder" "B" (.int (0 : Int32)) ∧ Fld Z h a "java/lang/String" "value" "[B" (.ref b) ∧ Arv Z h b kb .byte (0 : Int32) [] (.int (0 : Int32))
set_option maxRecDepth 65536 in
set_option maxHeartbeats 40000000 in
theorem own_si1_0 (l : Launch) (Z : State) (a0 : Array Value) (hw : ∀ d ∈ tables_1, d.before a0 Z = true) (ws : List Jvm.Cond) (a : Addr) (ca : Addr) (kc : ClassId) (h0 : Heap) (n0 : Nat) (Z0 : n0 ≤ h0.size) (F_v : Fld Z h0 a "java/lang/String" "value" "[B" .null) (F_c : Fld Z h0 a "java/lang/String" "coder" "B" (.int (0 : Int32))) (E_a : Exa Z h0 a "java/lang/String") (g_a : n0 ≤ a) (V_c : Arv Z h0 ca kc .char (0 : Int32) [] (.int (0 : Int32))) :
    MetFree l (⟨"java/lang/String", "<init>", "([C)V"⟩ : MethodName) (head1 (Jvm.Cond.code (⟨"java/lang/String", "<init>", "([C)V"⟩ : MethodName) jdk_42_method_3_code 2 none :: ws) ({ frames := 2, cells := 4, slots := 8, locals := 29 } : Room)) (fun as_ U => as_ = #[(.ref a), (.ref ca)] ∧ Z.Warmed39 U.vm ∧ U.heap = h0 ∧ CHv Z consts_1 U.vm h0 ∧ ∀ x_ ∈ ([a] : List Addr), Safe Z consts_1 U.vm h0 x_) (fun _ _ _ _ _ => True) (fun _ U_ o_ V_ => ∃ v_ L_, o_ = .returned v_ ∧ own_si1_0_Q Z a ca kc h0 n0 v_ V_.heap L_ ∧ CHr Z consts_1 U_.vm U_.heap V_.vm V_.heap ∧ ReturnedEndW U_ o_ V_ L_ ({ frames := 2, cells := 4, slots := 8, locals := 29 } : Room).cells ({ frames := 2, cells := 4, slots := 8, locals := 29 } : Room).slots) := by
  refine MetFree.of_bodySF (plainFor_of_name own_pn1) hisR ?_
  intro p e s m args below meth c s₁ Bd hml0 hP hK
  obtain ⟨rfl, hZ, hh, HC0, hsf0⟩ := hP
  have hx := Bd.exec
  have hby := Bd.bytes
  have hml : c.maxLocals = 2 := hml0
  have hown : s.vm.findClass "java/lang/String" = some m.cls := findClass_of_methodNamed Bd.named
  have hnm := (name_of_methodNamed Bd.named Bd.method).1
  have X0 : Stand p l e ({ frames := 2, cells := 4, slots := 8, locals := 29 } : Room) s m #[(.ref a), (.ref ca)] below meth c s₁ [] 0 0 := Stand.of_body Bd
  have e0 : s₁.heap = h0 := by rw [← hh, Bd.state]; rfl
  have N0 := Fr.nil n0
  refine own_begin (own_si1_0_ef m a ca kc) ?_
  show Ends p.tables e below (s₁.setTop (mkF m 0 #[.val (.ref a), .val (.ref ca)] [])) _
  have Kr0 : Keep h0 h0 [a] := Keep.refl h0 _
  have HR0 : CHr Z consts_1 s.vm h0 s.vm h0 := CHr.refl HC0
  have sf_a := hsf0 a (List.mem_of_getElem? (i := 0) rfl)
  have X0w : Stand p l e ({ frames := 2, cells := 4, slots := 8, locals := 29 } : Room) (s.setVm s.vm) m #[(.ref a), (.ref ca)] below meth c s₁ [] 0 0 := X0
  have hS : s.Since s.vm 0 := (State.WarmedH.refl s).since 0
  have hk : 0 ≤ h0.size := Nat.zero_le _
  refine s_aloadN (pc' := 1) X0w.here hx (hb hby own_d2_0) rfl rfl rfl ?_
  refine s_aloadN (pc' := 2) X0w.here hx (hb hby own_d2_1) rfl rfl rfl ?_
  refine s_iconst (pc' := 3) X0w.here hx (v := (0 : Int32)) (hb hby own_d2_2) rfl rfl ?_
  refine s_aloadN (pc' := 4) X0w.here hx (hb hby own_d2_3) rfl rfl rfl ?_
  refine s_arraylength (pc' := 5) X0w hx hZ e0 V_c (hb hby own_d2_4) rfl ?_
  refine s_aconstNull (pc' := 6) X0w.here hx (hb hby own_d2_5) rfl ?_
  refine s_callIH (pc' := 9) (W := 0) X0w hx hZ hS hk (own_EW hw) HC0  hown rfl (hw _ (List.mem_of_getElem? (i := 14) rfl)) (hw _ (List.mem_of_getElem? (i := 15) rfl)) (hw _ (List.mem_of_getElem? (i := 9) rfl)) (hw _ (List.mem_of_getElem? (i := 17) rfl)) (by decide) e0 (own_si4_0 l Z a0 hw [] a ca h0 n0 Z0 F_v F_c E_a g_a) (own_safeS F_v.lt sf_a own_safe0) a (by rw [hml]; rfl) [(.ref ca), (.int (0 : Int32)), (.int (0 : Int32)), .null] [] rfl (lenOf own_pd3 rfl) rfl (Nat.le_of_eq rfl) (by decide) (by decide) (by decide) (by decide) rfl (hb hby own_d2_6) fun T1 v1 Lc1 X1 hS hZ hown hr1 hQ1 => ?_
  obtain ⟨b, kb, rfl, Nq1, Kq1, Ea, Fc, Fv, Vb⟩ := hQ1
  have sf2 := CHr.safe hr1 F_v.lt sf_a
  have HR3 := CHr.trans HR0 (hr1)
  have HC4 := hr1.1
  have N1 := Fr.app N0 Nq1
  have hk : T1.heap.size ≤ T1.heap.size := Nat.le_refl _
  have f5 := E_a.keep Kq1
  have Z6 : n0 ≤ T1.heap.size := Nat.le_trans Z0 Kq1.1
  have K7 : Keep h0 T1.heap [a] := Kr0.trans Kq1 (allS (Or.inl (List.mem_of_getElem? (i := 0) rfl)) all0)
  show Ends p.tables e below (T1.setTop (mkF m 9 #[.val (.ref a), .val (.ref ca)] [])) _
  obtain ⟨fs, hr, hrun, hended, hRW⟩ := X1.leaveW hS (show _ ≤ T1.heap.size from hk) (v := none) (fun _ => rfl)
  have hfin : CHr Z consts_1 s.vm s.heap T1.vm T1.heap := by rw [hh]; exact CHr.trans HR3 (CHv.at X1 hZ (own_EW hw) HC4)
  refine ⟨_, _, X1.returnOut hx Bd.returns (hb hby own_d2_9) hr, hrun, hended, _, _, rfl, ?_, hfin, own_rwm hRW (by decide) (by decide)⟩
  show own_si1_0_Q Z a ca kc h0 n0 _ T1.heap _
  exact ⟨b, kb, rfl, N1, K7, Ea, Fc, Fv, Vb⟩
/-- two contents are alike -/
def own_same_ (z : Int32) (vs : List Value) (z' : Int32) (us : List Value) : Prop := z = z' ∧ ∀ i, i < z.toNatClampNeg → vs.getD i (.int (0 : Int32)) = us.getD i (.int (0 : Int32))
theorem own_r0 {r : Int32} {P : Prop} (h : r = 0 ∨ r = 1) (q : r = 1 ↔ P) (n : ¬ P) : r = 0 := h.resolve_right fun z => n (q.mp z)
theorem own_byteAt {Z : State} {h : Heap} {a : Addr} {k : ClassId} {z : Int32} {vs : List Value} {d : Value} (F : Arv Z h a k .byte z vs d) {j : Int32} (h0 : ¬ j < 0) (h1 : j < z) : ∃ x : Int32, vs.getD j.toNatClampNeg d = .int x := by
  obtain ⟨c, A, q, S, M, H, G⟩ := F
  have hin := inb_of S ⟨h0, h1⟩
  have g := G j.toNatClampNeg (Nat.lt_of_not_le fun y => hin (Or.inr y))
  cases hv : vs.getD j.toNatClampNeg d with
  | int x => exact ⟨x, rfl⟩
  | _ => rw [hv] at g; simp [fits] at g
theorem own_arvNN {Z : State} {h : Heap} {a : Addr} {k : ClassId} {ty : FieldType} {z : Int32} {vs : List Value} {d : Value} (F : Arv Z h a k ty z vs d) : ¬ z < 0 := by
  obtain ⟨c, A, q, S, M, H, G⟩ := F
  exact M
theorem own_arvSame {Z : State} {h : Heap} {a : Addr} {k k' : ClassId} {z z' : Int32} {vs us : List Value} (F : Arv Z h a k .byte z vs (.int (0 : Int32))) (G : Arv Z h a k' .byte z' us (.int (0 : Int32))) : own_same_ z vs z' us := by
  obtain ⟨c, A, q, S, M, H, -⟩ := F
  obtain ⟨c', A', q', S', M', H', -⟩ := G
  cases A.1.symm.trans A'.1
  have e : z = z' := by rw [← (back32 M).1, ← (back32 M').1, ← S, ← S']
  refine ⟨e, fun i hi => ?_⟩
  rw [← S] at hi
  exact Option.some.inj ((H i hi).symm.trans (H' i hi))
theorem own_fldSame {Z : State} {h : Heap} {a : Addr} {C n d : String} {v w : Value} (F : Fld Z h a C n d v) (G : Fld Z h a C n d w) : v = w := Classical.byContradiction fun q => Fld.ne F G q rfl
theorem own_nlt_ {x y : Int32} (h : y.toInt ≤ x.toInt) : ¬ x < y := by
  rw [Int32.lt_iff_toInt_lt]
  omega
theorem own_lt_ {x y : Int32} (h : x.toInt < y.toInt) : x < y := Int32.lt_iff_toInt_lt.mpr h
theorem own_d10_0 : decode jdk_43_method_13_code 0 = .ok (.aload_n 0, 1) := by decide +kernel
theorem own_d10_1 : decode jdk_43_method_13_code 1 = .ok (.arraylength, 1) := by decide +kernel
theorem own_d10_2 : decode jdk_43_method_13_code 2 = .ok (.aload_n 1, 1) := by decide +kernel
theorem own_d10_3 : decode jdk_43_method_13_code 3 = .ok (.arraylength, 1) := by decide +kernel
theorem own_d10_4 : decode jdk_43_method_13_code 4 = .ok (.if_icmp .ne 30, 3) := by decide +kernel
theorem own_d10_34 : decode jdk_43_method_13_code 34 = .ok (.iconst 0, 1) := by decide +kernel
theorem own_d10_35 : decode jdk_43_method_13_code 35 = .ok (.ireturn, 1) := by decide +kernel
theorem own_d10_7 : decode jdk_43_method_13_code 7 = .ok (.iconst 0, 1) := by decide +kernel
theorem own_d10_8 : decode jdk_43_method_13_code 8 = .ok (.istore_n 2, 1) := by decide +kernel
theorem own_d10_9 : decode jdk_43_method_13_code 9 = .ok (.iload_n 2, 1) := by decide +kernel
theorem own_d10_10 : decode jdk_43_method_13_code 10 = .ok (.aload_n 0, 1) := by decide +kernel
theorem own_d10_11 : decode jdk_43_method_13_code 11 = .ok (.arraylength, 1) := by decide +kernel
theorem own_d10_12 : decode jdk_43_method_13_code 12 = .ok (.if_icmp .ge 20, 3) := by decide +kernel
theorem own_d10_32 : decode jdk_43_method_13_code 32 = .ok (.iconst 1, 1) := by decide +kernel
theorem own_d10_33 : decode jdk_43_method_13_code 33 = .ok (.ireturn, 1) := by decide +kernel
theorem own_d10_15 : decode jdk_43_method_13_code 15 = .ok (.aload_n 0, 1) := by decide +kernel
theorem own_d10_16 : decode jdk_43_method_13_code 16 = .ok (.iload_n 2, 1) := by decide +kernel
theorem own_d10_17 : decode jdk_43_method_13_code 17 = .ok (.baload, 1) := by decide +kernel
theorem own_d10_18 : decode jdk_43_method_13_code 18 = .ok (.aload_n 1, 1) := by decide +kernel
theorem own_d10_19 : decode jdk_43_method_13_code 19 = .ok (.iload_n 2, 1) := by decide +kernel
theorem own_d10_20 : decode jdk_43_method_13_code 20 = .ok (.baload, 1) := by decide +kernel
theorem own_d10_21 : decode jdk_43_method_13_code 21 = .ok (.if_icmp .eq 5, 3) := by decide +kernel
theorem own_d10_24 : decode jdk_43_method_13_code 24 = .ok (.iconst 0, 1) := by decide +kernel
theorem own_d10_25 : decode jdk_43_method_13_code 25 = .ok (.ireturn, 1) := by decide +kernel
theorem own_d10_26 : decode jdk_43_method_13_code 26 = .ok (.iinc 2 1, 3) := by decide +kernel
theorem own_d10_29 : decode jdk_43_method_13_code 29 = .ok (.goto (-20), 3) := by decide +kernel
theorem own_pn2 : plainName "java/lang/StringLatin1" = true := by first | (simp [plainName, overriddenIn]; done) | decide +kernel
theorem own_leq_ef (m : MethodId) (b : Addr) (b' : Addr) (k : ClassId) (z : Int32) (vs : List Value) (k' : ClassId) (z' : Int32) (us : List Value) (r : Int32) : entryFrame m #[(.ref b), (.ref b')] 3 = mkF m 0 #[.val (.ref b), .val (.ref b'), .unset] [] := by first | (simp [entryFrame, mkF, argsToLocals, Value.category]; done) | rfl
def own_leq_Q (Z : State) (b : Addr) (b' : Addr) (k : ClassId) (z : Int32) (vs : List Value) (k' : ClassId) (z' : Int32) (us : List Value) (r : Int32) (h0 : Heap) (n0 : Nat) (v : Option Value) (h : Heap) (L : List Loc) : Prop := v = some (.int r) ∧ Fr n0 L ∧ h = h0
set_option maxRecDepth 65536 in
set_option maxHeartbeats 40000000 in
theorem own_leq (l : Launch) (Z : State) (a0 : Array Value) (hw : ∀ d ∈ tables_1, d.before a0 Z = true) (ws : List Jvm.Cond) (b : Addr) (b' : Addr) (k : ClassId) (z : Int32) (vs : List Value) (k' : ClassId) (z' : Int32) (us : List Value) (r : Int32) (h0 : Heap) (n0 : Nat) (Z0 : n0 ≤ h0.size) (V_b : Arv Z h0 b k .byte z vs (.int (0 : Int32))) (V_b' : Arv Z h0 b' k' .byte z' us (.int (0 : Int32))) (r01 : r = 0 ∨ r = 1) (hrr : r = 1 ↔ own_same_ z vs z' us) :
    MetFree l (⟨"java/lang/StringLatin1", "equals", "([B[B)Z"⟩ : MethodName) (head1 (Jvm.Cond.code (⟨"java/lang/StringLatin1", "equals", "([B[B)Z"⟩ : MethodName) jdk_43_method_13_code 3 (some .boolean) :: ws) ({ frames := 0, cells := 0, slots := 0, locals := 0 } : Room)) (fun as_ U => as_ = #[(.ref b), (.ref b')] ∧ Z.Warmed39 U.vm ∧ U.heap = h0) (fun _ _ _ _ _ => True) (fun _ U_ o_ V_ => ∃ v_ L_, o_ = .returned v_ ∧ own_leq_Q Z b b' k z vs k' z' us r h0 n0 v_ V_.heap L_ ∧ FrameEnd U_ o_ V_ L_ ({ frames := 0, cells := 0, slots := 0, locals := 0 } : Room).cells ({ frames := 0, cells := 0, slots := 0, locals := 0 } : Room).slots) := by
  refine MetFree.of_bodySF (plainFor_of_name own_pn2) hisR ?_
  intro p e s m args below meth c s₁ Bd hml0 hP hK
  obtain ⟨rfl, hZ, hh⟩ := hP
  have hx := Bd.exec
  have hby := Bd.bytes
  have hml : c.maxLocals = 3 := hml0
  have hown : s.vm.findClass "java/lang/StringLatin1" = some m.cls := findClass_of_methodNamed Bd.named
  have hnm := (name_of_methodNamed Bd.named Bd.method).1
  have X0 : Stand p l e ({ frames := 0, cells := 0, slots := 0, locals := 0 } : Room) s m #[(.ref b), (.ref b')] below meth c s₁ [] 0 0 := Stand.of_body Bd
  have e0 : s₁.heap = h0 := by rw [← hh, Bd.state]; rfl
  have N0 := Fr.nil n0
  refine own_begin (own_leq_ef m b b' k z vs k' z' us r) ?_
  show Ends p.tables e below (s₁.setTop (mkF m 0 #[.val (.ref b), .val (.ref b'), .unset] [])) _
  have one : (1 : Int32).toInt = 1 := by decide
  have zero : (0 : Int32).toInt = 0 := by decide
  have nz := own_arvNN V_b
  have nzi := nat_of nz
  refine s_aloadN (pc' := 1) X0.here hx (hb hby own_d10_0) rfl rfl rfl ?_
  refine s_arraylength (pc' := 2) X0 hx hZ e0 V_b (hb hby own_d10_1) rfl ?_
  refine s_aloadN (pc' := 3) X0.here hx (hb hby own_d10_2) rfl rfl rfl ?_
  refine s_arraylength (pc' := 4) X0 hx hZ e0 V_b' (hb hby own_d10_3) rfl ?_
  by_cases hzz : z = z'
  · refine s_icmpNo (pc' := 7) X0.here hx (hb hby own_d10_4) (teq hzz).2 rfl ?_
    refine s_iconst (pc' := 8) X0.here hx (v := (0 : Int32)) (hb hby own_d10_7) rfl rfl ?_
    refine s_istoreN (pc' := 9) X0.here hx (l' := #[.val (.ref b), .val (.ref b'), .val (.int (0 : Int32))]) (hb hby own_d10_8) rfl rfl ?_
    obtain ⟨LL1, XLL1, NLL1⟩ : ∃ LL, Stand p l e ({ frames := 0, cells := 0, slots := 0, locals := 0 } : Room) s m #[(.ref b), (.ref b')] below meth c s₁ LL 0 0 ∧ Fr n0 LL := ⟨_, X0, N0⟩
    refine own_join (α := Nat × State × Int32) (fun ⟨kk, TT, i⟩ => TT.setTop (mkF m 9 #[.val (.ref b), .val (.ref b'), .val (.int i)] [])) (fun ⟨kk, TT, i⟩ => Stand p l e ({ frames := 0, cells := 0, slots := 0, locals := 0 } : Room) s m #[(.ref b), (.ref b')] below meth c TT LL1 0 0 ∧ TT.heap = h0 ∧ (0 ≤ i.toInt ∧ i.toInt + kk = z.toInt ∧ ∀ j, j < i.toNatClampNeg → vs.getD j (.int (0 : Int32)) = us.getD j (.int (0 : Int32)))) (fun key => key (z.toInt.toNat, s₁, (0 : Int32)) ⟨XLL1, e0, ⟨by omega, by omega, fun j hj => absurd hj (Nat.not_lt_zero j)⟩⟩) ?_
    rintro ⟨kk, TT, i⟩ ⟨XX, eX, hI⟩
    dsimp only at XX eX hI ⊢
    induction kk generalizing TT i with
    | zero =>
      show Ends p.tables e below (TT.setTop (mkF m 9 #[.val (.ref b), .val (.ref b'), .val (.int i)] [])) _
      obtain ⟨i_0, i_1, i_2⟩ := hI
      refine s_iloadN (pc' := 10) XX.here hx (hb hby own_d10_9) rfl rfl ?_
      refine s_aloadN (pc' := 11) XX.here hx (hb hby own_d10_10) rfl rfl rfl ?_
      refine s_arraylength (pc' := 12) XX hx hZ eX V_b (hb hby own_d10_11) rfl ?_
      have hk2 : ¬ (i < z) := own_nlt_ (by omega)
      refine s_icmpYes (pc' := 32) XX.here hx (hb hby own_d10_12) (flt hk2).2.1 (by decide) (by decide) ?_
      refine s_iconst (pc' := 33) XX.here hx (v := (1 : Int32)) (hb hby own_d10_32) rfl rfl ?_
      have iz : i.toNatClampNeg = z.toNatClampNeg := by
        have q1 := nat_of (show ¬ i < 0 from own_nlt_ (by omega))
        omega
      have r1 : r = 1 := hrr.mpr ⟨hzz, fun j hj => i_2 j (by rw [iz]; exact hj)⟩
      obtain ⟨fs, hr, hrun, hended, hW, hsame⟩ := XX.leave (v := some (.int (1 : Int32))) (fun h => by rw [Bd.returns] at h; cases h)
      refine ⟨_, _, retN XX hx (t := .boolean) Bd.returns (by simp) (hb hby own_d10_33) hr, hrun, hended, _, _, rfl, ?_, ⟨_, rfl⟩, hW, hsame.mono (by decide) (by decide)⟩
      show own_leq_Q Z b b' k z vs k' z' us r h0 n0 _ TT.heap _
      rw [eX]
      exact ⟨by rw [r1] <;> rfl, NLL1, rfl⟩
    | succ kk ih =>
      show Ends p.tables e below (TT.setTop (mkF m 9 #[.val (.ref b), .val (.ref b'), .val (.int i)] [])) _
      obtain ⟨i_0, i_1, i_2⟩ := hI
      refine s_iloadN (pc' := 10) XX.here hx (hb hby own_d10_9) rfl rfl ?_
      refine s_aloadN (pc' := 11) XX.here hx (hb hby own_d10_10) rfl rfl rfl ?_
      refine s_arraylength (pc' := 12) XX hx hZ eX V_b (hb hby own_d10_11) rfl ?_
      have hk3 : i < z := own_lt_ (by omega)
      refine s_icmpNo (pc' := 15) XX.here hx (hb hby own_d10_12) (tlt hk3).2.1 rfl ?_
      refine s_aloadN (pc' := 16) XX.here hx (hb hby own_d10_15) rfl rfl rfl ?_
      refine s_iloadN (pc' := 17) XX.here hx (hb hby own_d10_16) rfl rfl ?_
      have i0 : ¬ i < 0 := own_nlt_ (by omega)
      have i1 : i < z := own_lt_ (by omega)
      have i1' : i < z' := hzz ▸ i1
      obtain ⟨x, hx0⟩ := own_byteAt V_b i0 i1
      obtain ⟨y, hy0⟩ := own_byteAt V_b' i0 i1'
      have in_ := nat_of i0
      refine s_baload (pc' := 18) (v := (.int x)) XX hx hZ eX V_b ⟨i0, i1⟩ hx0 (hb hby own_d10_17) rfl ?_
      refine s_aloadN (pc' := 19) XX.here hx (hb hby own_d10_18) rfl rfl rfl ?_
      refine s_iloadN (pc' := 20) XX.here hx (hb hby own_d10_19) rfl rfl ?_
      refine s_baload (pc' := 21) (v := (.int y)) XX hx hZ eX V_b' ⟨i0, i1'⟩ hy0 (hb hby own_d10_20) rfl ?_
      by_cases hxy : x = y
      · refine s_icmpYes (pc' := 26) XX.here hx (hb hby own_d10_21) (teq hxy).1 (by decide) (by decide) ?_
        refine s_iinc (pc' := 29) XX.here hx (v := (1 : Int32)) (l' := #[.val (.ref b), .val (.ref b'), .val (.int (i + (1 : Int32)))]) (hb hby own_d10_26) rfl rfl rfl rfl ?_
        refine s_goto (pc' := 9) XX.here hx (hb hby own_d10_29) (by decide) (by decide) ?_
        have q3 : (i + (1 : Int32)).toInt = i.toInt + (1 : Int32).toInt := by
          have q4 := c_iadd i (1 : Int32)
          have q5 := rng32 (i + (1 : Int32))
          have q6 := rng32 z
          omega
        have q7 := nat_of (show ¬ (i + (1 : Int32)) < 0 from own_nlt_ (by omega))
        exact ih TT (i + (1 : Int32)) XX eX (⟨by omega, by omega, fun j hj => by
            by_cases e : j = i.toNatClampNeg
            · rw [e, hx0, hy0, hxy]
            · exact i_2 j (by omega)⟩)
      · refine s_icmpNo (pc' := 24) XX.here hx (hb hby own_d10_21) (feq hxy).1 rfl ?_
        refine s_iconst (pc' := 25) XX.here hx (v := (0 : Int32)) (hb hby own_d10_24) rfl rfl ?_
        obtain ⟨fs, hr, hrun, hended, hW, hsame⟩ := XX.leave (v := some (.int (0 : Int32))) (fun h => by rw [Bd.returns] at h; cases h)
        refine ⟨_, _, retN XX hx (t := .boolean) Bd.returns (by simp) (hb hby own_d10_25) hr, hrun, hended, _, _, rfl, ?_, ⟨_, rfl⟩, hW, hsame.mono (by decide) (by decide)⟩
        show own_leq_Q Z b b' k z vs k' z' us r h0 n0 _ TT.heap _
        rw [eX]
        exact ⟨by rw [own_r0 r01 hrr (fun q => hxy (Value.int.inj ((hx0.symm.trans (q.2 _ (by omega))).trans hy0)))] <;> rfl, NLL1, rfl⟩
  · refine s_icmpYes (pc' := 34) X0.here hx (hb hby own_d10_4) (feq hzz).2 (by decide) (by decide) ?_
    refine s_iconst (pc' := 35) X0.here hx (v := (0 : Int32)) (hb hby own_d10_34) rfl rfl ?_
    obtain ⟨fs, hr, hrun, hended, hW, hsame⟩ := X0.leave (v := some (.int (0 : Int32))) (fun h => by rw [Bd.returns] at h; cases h)
    refine ⟨_, _, retN X0 hx (t := .boolean) Bd.returns (by simp) (hb hby own_d10_35) hr, hrun, hended, _, _, rfl, ?_, ⟨_, rfl⟩, hW, hsame.mono (by decide) (by decide)⟩
    show own_leq_Q Z b b' k z vs k' z' us r h0 n0 _ s₁.heap _
    rw [e0]
    exact ⟨by rw [own_r0 r01 hrr (fun q => hzz q.1)] <;> rfl, N0, rfl⟩
theorem own_d9_0 : decode jdk_42_method_66_code 0 = .ok (.aload_n 0, 1) := by decide +kernel
theorem own_d9_1 : decode jdk_42_method_66_code 1 = .ok (.aload_n 1, 1) := by decide +kernel
theorem own_d9_2 : decode jdk_42_method_66_code 2 = .ok (.if_acmp .ne 5, 3) := by decide +kernel
theorem own_d9_5 : decode jdk_42_method_66_code 5 = .ok (.iconst 1, 1) := by decide +kernel
theorem own_d9_6 : decode jdk_42_method_66_code 6 = .ok (.ireturn, 1) := by decide +kernel
theorem own_d9_7 : decode jdk_42_method_66_code 7 = .ok (.aload_n 1, 1) := by decide +kernel
theorem own_d9_8 : decode jdk_42_method_66_code 8 = .ok (.instanceof 10, 3) := by decide +kernel
theorem own_d9_11 : decode jdk_42_method_66_code 11 = .ok (.ifCond .eq 43, 3) := by decide +kernel
theorem own_d9_14 : decode jdk_42_method_66_code 14 = .ok (.aload_n 1, 1) := by decide +kernel
theorem own_d9_15 : decode jdk_42_method_66_code 15 = .ok (.checkcast 10, 3) := by decide +kernel
theorem own_d9_18 : decode jdk_42_method_66_code 18 = .ok (.astore_n 2, 1) := by decide +kernel
theorem own_d9_19 : decode jdk_42_method_66_code 19 = .ok (.getstatic 38, 3) := by decide +kernel
theorem own_d9_22 : decode jdk_42_method_66_code 22 = .ok (.ifCond .eq 14, 3) := by decide +kernel
theorem own_d9_25 : decode jdk_42_method_66_code 25 = .ok (.aload_n 0, 1) := by decide +kernel
theorem own_d9_26 : decode jdk_42_method_66_code 26 = .ok (.getfield 15, 3) := by decide +kernel
theorem own_d9_29 : decode jdk_42_method_66_code 29 = .ok (.aload_n 2, 1) := by decide +kernel
theorem own_d9_30 : decode jdk_42_method_66_code 30 = .ok (.getfield 15, 3) := by decide +kernel
theorem own_d9_33 : decode jdk_42_method_66_code 33 = .ok (.if_icmp .ne 21, 3) := by decide +kernel
theorem own_d9_36 : decode jdk_42_method_66_code 36 = .ok (.aload_n 0, 1) := by decide +kernel
theorem own_d9_37 : decode jdk_42_method_66_code 37 = .ok (.getfield 9, 3) := by decide +kernel
theorem own_d9_40 : decode jdk_42_method_66_code 40 = .ok (.aload_n 2, 1) := by decide +kernel
theorem own_d9_41 : decode jdk_42_method_66_code 41 = .ok (.getfield 9, 3) := by decide +kernel
theorem own_d9_44 : decode jdk_42_method_66_code 44 = .ok (.invokestatic 541, 3) := by decide +kernel
theorem own_pd4 : parseMethodDescriptor "([B[B)Z" = some ⟨[(.array .byte), (.array .byte)], some .boolean⟩ := by decide +kernel
theorem own_d9_47 : decode jdk_42_method_66_code 47 = .ok (.ifCond .eq 7, 3) := by decide +kernel
theorem own_d9_54 : decode jdk_42_method_66_code 54 = .ok (.iconst 0, 1) := by decide +kernel
theorem own_d9_55 : decode jdk_42_method_66_code 55 = .ok (.ireturn, 1) := by decide +kernel
theorem own_d9_50 : decode jdk_42_method_66_code 50 = .ok (.iconst 1, 1) := by decide +kernel
theorem own_d9_51 : decode jdk_42_method_66_code 51 = .ok (.goto 4, 3) := by decide +kernel
theorem own_seq_ef (m : MethodId) (a : Addr) (a' : Addr) (cs : Int32) (b : Addr) (b' : Addr) (k : ClassId) (z : Int32) (vs : List Value) (k' : ClassId) (z' : Int32) (us : List Value) (r : Int32) : entryFrame m #[(.ref a), (.ref a')] 3 = mkF m 0 #[.val (.ref a), .val (.ref a'), .unset] [] := by first | (simp [entryFrame, mkF, argsToLocals, Value.category]; done) | rfl
def own_seq_Q (Z : State) (a : Addr) (a' : Addr) (cs : Int32) (b : Addr) (b' : Addr) (k : ClassId) (z : Int32) (vs : List Value) (k' : ClassId) (z' : Int32) (us : List Value) (r : Int32) (h0 : Heap) (n0 : Nat) (v : Option Value) (h : Heap) (L : List Loc) : Prop := v = some (.int r) ∧ Fr n0 L ∧ h = h0
set_option maxRecDepth 65536 in
set_option maxHeartbeats 40000000 in
theorem own_seq (l : Launch) (Z : State) (a0 : Array Value) (hw : ∀ d ∈ tables_1, d.before a0 Z = true) (ws : List Jvm.Cond) (a : Addr) (a' : Addr) (cs : Int32) (b : Addr) (b' : Addr) (k : ClassId) (z : Int32) (vs : List Value) (k' : ClassId) (z' : Int32) (us : List Value) (r : Int32) (h0 : Heap) (n0 : Nat) (Z0 : n0 ≤ h0.size) (O0 : Old Z n0 h0) (S_cs : Sta Z Z.heap "java/lang/String" "COMPACT_STRINGS" "Z" (.int cs)) (hcs : ¬ cs = (0 : Int32)) (F_c : Fld Z h0 a "java/lang/String" "coder" "B" (.int (0 : Int32))) (F_v : Fld Z h0 a "java/lang/String" "value" "[B" (.ref b)) (F_c' : Fld Z h0 a' "java/lang/String" "coder" "B" (.int (0 : Int32))) (F_v' : Fld Z h0 a' "java/lang/String" "value" "[B" (.ref b')) (E_a' : Exa Z h0 a' "java/lang/String") (V_b : Arv Z h0 b k .byte z vs (.int (0 : Int32))) (V_b' : Arv Z h0 b' k' .byte z' us (.int (0 : Int32))) (r01 : r = 0 ∨ r = 1) (hrr : r = 1 ↔ own_same_ z vs z' us) :
    MetFree l (⟨"java/lang/String", "equals", "(Ljava/lang/Object;)Z"⟩ : MethodName) (head1 (Jvm.Cond.code (⟨"java/lang/String", "equals", "(Ljava/lang/Object;)Z"⟩ : MethodName) jdk_42_method_66_code 3 (some .boolean) :: ws) ({ frames := 1, cells := 0, slots := 0, locals := 14 } : Room)) (fun as_ U => as_ = #[(.ref a), (.ref a')] ∧ Z.Warmed39 U.vm ∧ U.heap = h0) (fun _ _ _ _ _ => True) (fun _ U_ o_ V_ => ∃ v_ L_, o_ = .returned v_ ∧ own_seq_Q Z a a' cs b b' k z vs k' z' us r h0 n0 v_ V_.heap L_ ∧ FrameEnd U_ o_ V_ L_ ({ frames := 1, cells := 0, slots := 0, locals := 14 } : Room).cells ({ frames := 1, cells := 0, slots := 0, locals := 14 } : Room).slots) := by
  refine MetFree.of_bodySF (plainFor_of_name own_pn1) hisR ?_
  intro p e s m args below meth c s₁ Bd hml0 hP hK
  obtain ⟨rfl, hZ, hh⟩ := hP
  have hx := Bd.exec
  have hby := Bd.bytes
  have hml : c.maxLocals = 3 := hml0
  have hown : s.vm.findClass "java/lang/String" = some m.cls := findClass_of_methodNamed Bd.named
  have hnm := (name_of_methodNamed Bd.named Bd.method).1
  have X0 : Stand p l e ({ frames := 1, cells := 0, slots := 0, locals := 14 } : Room) s m #[(.ref a), (.ref a')] below meth c s₁ [] 0 0 := Stand.of_body Bd
  have e0 : s₁.heap = h0 := by rw [← hh, Bd.state]; rfl
  have N0 := Fr.nil n0
  refine own_begin (own_seq_ef m a a' cs b b' k z vs k' z' us r) ?_
  show Ends p.tables e below (s₁.setTop (mkF m 0 #[.val (.ref a), .val (.ref a'), .unset] [])) _
  refine s_aloadN (pc' := 1) X0.here hx (hb hby own_d9_0) rfl rfl rfl ?_
  refine s_aloadN (pc' := 2) X0.here hx (hb hby own_d9_1) rfl rfl rfl ?_
  by_cases haa : a = a'
  · refine own_via (fun t_ k_ => Jvm.RoadKit.acmp (g := (mkF m 2 #[.val (.ref a), .val (.ref a'), .unset] [(.ref a'), (.ref a)])) X0 hx rfl rfl rfl (pc0 := 2) (pc' := 5) (same := true) rfl (hb hby own_d9_2) rfl (decide_eq_true (congrArg Value.ref haa)) (by decide) (by decide) k_) ?_
    show Ends p.tables e below (s₁.setTop (mkF m 5 #[.val (.ref a), .val (.ref a'), .unset] [])) _
    refine s_iconst (pc' := 6) X0.here hx (v := (1 : Int32)) (hb hby own_d9_5) rfl rfl ?_
    have r1 : r = 1 := by
      subst haa
      have e := Value.ref.inj (own_fldSame F_v F_v')
      subst e
      exact hrr.mpr (own_arvSame V_b V_b')
    obtain ⟨fs, hr, hrun, hended, hW, hsame⟩ := X0.leave (v := some (.int (1 : Int32))) (fun h => by rw [Bd.returns] at h; cases h)
    refine ⟨_, _, retN X0 hx (t := .boolean) Bd.returns (by simp) (hb hby own_d9_6) hr, hrun, hended, _, _, rfl, ?_, ⟨_, rfl⟩, hW, hsame.mono (by decide) (by decide)⟩
    show own_seq_Q Z a a' cs b b' k z vs k' z' us r h0 n0 _ s₁.heap _
    rw [e0]
    exact ⟨by rw [r1] <;> rfl, N0, rfl⟩
  · refine own_via (fun t_ k_ => Jvm.RoadKit.acmp (g := (mkF m 2 #[.val (.ref a), .val (.ref a'), .unset] [(.ref a'), (.ref a)])) X0 hx rfl rfl rfl (pc0 := 2) (pc' := 7) (same := false) rfl (hb hby own_d9_2) rfl (decide_eq_false fun q_ => haa (Value.ref.inj q_)) (by decide) (by decide) k_) ?_
    show Ends p.tables e below (s₁.setTop (mkF m 7 #[.val (.ref a), .val (.ref a'), .unset] [])) _
    refine s_aloadN (pc' := 8) X0.here hx (hb hby own_d9_7) rfl rfl rfl ?_
    refine s_instY (pc' := 11) X0 hx hZ hown (hw _ (List.mem_of_getElem? (i := 65) rfl)) e0 (Ins.self E_a') (hb hby own_d9_8) rfl fun T1 X1 e1 => ?_
    have hk2 : ¬ ((1 : Int32) = (0 : Int32)) := by decide
    refine s_ifNo (pc' := 14) X1.here hx (hb hby own_d9_11) ((if0 _ _).trans (feq hk2).1) rfl ?_
    refine s_aloadN (pc' := 15) X1.here hx (hb hby own_d9_14) rfl rfl rfl ?_
    refine s_castY (pc' := 18) X1 hx hZ hown (hw _ (List.mem_of_getElem? (i := 65) rfl)) e1 (Ins.self E_a') (hb hby own_d9_15) rfl fun T3 X3 e3 => ?_
    refine s_astoreN (pc' := 19) X3.here hx (l' := #[.val (.ref a), .val (.ref a'), .val (.ref a')]) (hb hby own_d9_18) rfl rfl rfl ?_
    refine s_getS (pc' := 22) X3 hx hZ hown (host := "") (Or.inl (hw _ (List.mem_of_getElem? (i := 66) rfl))) Via.refl e3 (S_cs.ext O0.2) (hb hby own_d9_19) rfl fun T4 X4 e4 => ?_
    have hk5 : ¬ (cs = (0 : Int32)) := hcs
    refine s_ifNo (pc' := 25) X4.here hx (hb hby own_d9_22) ((if0 _ _).trans (feq hk5).1) rfl ?_
    refine s_aloadN (pc' := 26) X4.here hx (hb hby own_d9_25) rfl rfl rfl ?_
    refine s_getF (pc' := 29) X4 hx hZ hown (host := "") (Or.inl (hw _ (List.mem_of_getElem? (i := 28) rfl))) Via.refl e4 F_c (hb hby own_d9_26) rfl fun T6 X6 e6 => ?_
    refine s_aloadN (pc' := 30) X6.here hx (hb hby own_d9_29) rfl rfl rfl ?_
    refine s_getF (pc' := 33) X6 hx hZ hown (host := "") (Or.inl (hw _ (List.mem_of_getElem? (i := 28) rfl))) Via.refl e6 F_c' (hb hby own_d9_30) rfl fun T7 X7 e7 => ?_
    have hk8 : (0 : Int32) = (0 : Int32) := rfl
    refine s_icmpNo (pc' := 36) X7.here hx (hb hby own_d9_33) (teq hk8).2 rfl ?_
    refine s_aloadN (pc' := 37) X7.here hx (hb hby own_d9_36) rfl rfl rfl ?_
    refine s_getF (pc' := 40) X7 hx hZ hown (host := "") (Or.inl (hw _ (List.mem_of_getElem? (i := 27) rfl))) Via.refl e7 F_v (hb hby own_d9_37) rfl fun T9 X9 e9 => ?_
    refine s_aloadN (pc' := 41) X9.here hx (hb hby own_d9_40) rfl rfl rfl ?_
    refine s_getF (pc' := 44) X9 hx hZ hown (host := "") (Or.inl (hw _ (List.mem_of_getElem? (i := 27) rfl))) Via.refl e9 F_v' (hb hby own_d9_41) rfl fun T10 X10 e10 => ?_
    refine s_callS (pc' := 47) (W := 0) X10 hx hZ  hown (hw _ (List.mem_of_getElem? (i := 67) rfl)) (hw _ (List.mem_of_getElem? (i := 68) rfl)) (hw _ (List.mem_of_getElem? (i := 69) rfl)) (hw _ (List.mem_of_getElem? (i := 70) rfl)) (by decide) e10 (own_leq l Z a0 hw [] b b' k z vs k' z' us r h0 n0 Z0 V_b V_b' r01 hrr) (by rw [hml]; rfl) [(.ref b), (.ref b')] [] rfl (lenOf own_pd4 rfl) rfl (Nat.le_of_eq rfl) (by decide) (by decide) (by decide) (by decide) rfl (hb hby own_d9_44) fun T11 v11 Lc11 X11 hQ11 => ?_
    obtain ⟨rfl, Nq11, eh11⟩ := hQ11
    have N11 := Fr.app N0 Nq11
    show Ends p.tables e below (T11.setTop (mkF m 47 #[.val (.ref a), .val (.ref a'), .val (.ref a')] [(.int r)])) _
    by_cases hr0 : r = (0 : Int32)
    · refine s_ifYes (pc' := 54) X11.here hx (hb hby own_d9_47) ((if0 _ _).trans (teq hr0).1) (by decide) (by decide) ?_
      refine s_iconst (pc' := 55) X11.here hx (v := (0 : Int32)) (hb hby own_d9_54) rfl rfl ?_
      obtain ⟨fs, hr, hrun, hended, hW, hsame⟩ := X11.leave (v := some (.int (0 : Int32))) (fun h => by rw [Bd.returns] at h; cases h)
      refine ⟨_, _, retN X11 hx (t := .boolean) Bd.returns (by simp) (hb hby own_d9_55) hr, hrun, hended, _, _, rfl, ?_, ⟨_, rfl⟩, hW, hsame.mono (by decide) (by decide)⟩
      show own_seq_Q Z a a' cs b b' k z vs k' z' us r h0 n0 _ T11.heap _
      rw [eh11]
      exact ⟨by rw [hr0] <;> rfl, N11, rfl⟩
    · refine s_ifNo (pc' := 50) X11.here hx (hb hby own_d9_47) ((if0 _ _).trans (feq hr0).1) rfl ?_
      refine s_iconst (pc' := 51) X11.here hx (v := (1 : Int32)) (hb hby own_d9_50) rfl rfl ?_
      refine s_goto (pc' := 55) X11.here hx (hb hby own_d9_51) (by decide) (by decide) ?_
      obtain ⟨fs, hr, hrun, hended, hW, hsame⟩ := X11.leave (v := some (.int (1 : Int32))) (fun h => by rw [Bd.returns] at h; cases h)
      refine ⟨_, _, retN X11 hx (t := .boolean) Bd.returns (by simp) (hb hby own_d9_55) hr, hrun, hended, _, _, rfl, ?_, ⟨_, rfl⟩, hW, hsame.mono (by decide) (by decide)⟩
      show own_seq_Q Z a a' cs b b' k z vs k' z' us r h0 n0 _ T11.heap _
      rw [eh11]
      exact ⟨by rw [r01.resolve_left hr0] <;> rfl, N11, rfl⟩
def own_S (x y : Int32) : Prop := own_same_ (own_len x) (own_tx x) (own_len y) (own_tx y)
theorem own_same_symm {z z' : Int32} {vs us : List Value} (h : own_same_ z vs z' us) : own_same_ z' us z vs := ⟨h.1.symm, fun i hi => (h.2 i (by rw [h.1]; exact hi)).symm⟩
theorem own_l3 (x : Int32) : (own_t x = 0 ∧ own_len x = 0 ∧ (own_cn x).toUInt32.toNat = 0) ∨ (own_t x = 1 ∧ own_len x = 1 ∧ (own_cn x).toUInt32.toNat = 65536 + x.toUInt32.toNat % 256) ∨ (own_t x ≠ 0 ∧ own_t x ≠ 1 ∧ own_len x = 2 ∧ (own_cn x).toUInt32.toNat = 131072 + x.toUInt32.toNat % 65536) := by
  unfold own_len own_cn
  by_cases h0 : own_t x = 0
  · rw [if_pos h0, if_pos h0]
    exact Or.inl ⟨h0, rfl, by decide⟩
  · rw [if_neg h0, if_neg h0]
    by_cases h1 : own_t x = 1
    · rw [if_pos h1, if_pos h1]
      exact Or.inr (Or.inl ⟨h1, rfl, own_cA x⟩)
    · rw [if_neg h1, if_neg h1]
      exact Or.inr (Or.inr ⟨h0, h1, rfl, own_cB x⟩)
theorem own_e0 {x y : Int32} (h : x.toUInt32.toNat % 256 = y.toUInt32.toNat % 256) : own_bb x = own_bb y := by
  have e : x &&& (255 : Int32) = y &&& (255 : Int32) := own_inj (by rw [own_m8, own_m8, h])
  rw [own_bb_, own_bb_, e]
theorem own_e0' {x y : Int32} (h : own_bb x = own_bb y) : x.toUInt32.toNat % 256 = y.toUInt32.toNat % 256 := by rw [← own_m8, ← own_m8, own_bbi h]
theorem own_Sc (x y : Int32) : own_S x y ↔ own_cn x = own_cn y := by
  have lx := own_l3 x
  have ly := own_l3 y
  constructor
  · rintro ⟨q1, q2⟩
    refine own_inj ?_
    rcases lx with ⟨-, a, b⟩ | ⟨-, a, b⟩ | ⟨-, -, a, b⟩ <;> rcases ly with ⟨-, a', b'⟩ | ⟨-, a', b'⟩ | ⟨-, -, a', b'⟩ <;> rw [b, b'] <;> rw [a, a'] at q1
    · exact absurd q1 (by decide)
    · exact absurd q1 (by decide)
    · exact absurd q1 (by decide)
    · rw [own_e0' (Value.int.inj (q2 0 (by rw [a]; decide)))]
    · exact absurd q1 (by decide)
    · exact absurd q1 (by decide)
    · exact absurd q1 (by decide)
    · have e0 := own_e0' (Value.int.inj (q2 0 (by rw [a]; decide)))
      have e1 := own_e0' (Value.int.inj (q2 1 (by rw [a]; decide)))
      rw [own_hiN, own_hiN] at e1
      omega
  · intro q
    have q := congrArg (fun z : Int32 => z.toUInt32.toNat) q
    try dsimp only at q
    rcases lx with ⟨-, a, b⟩ | ⟨-, a, b⟩ | ⟨-, -, a, b⟩ <;> rcases ly with ⟨-, a', b'⟩ | ⟨-, a', b'⟩ | ⟨-, -, a', b'⟩ <;> rw [b, b'] at q <;> (try (exfalso; omega)) <;> refine ⟨a.trans a'.symm, fun i hi => ?_⟩ <;> rw [a] at hi
    · exact absurd hi (Nat.not_lt_zero i)
    · match i, hi with
      | 0, _ => show Value.int (own_bb x) = .int (own_bb y); rw [own_e0 (x := x) (y := y) (by omega)]
      | n + 1, q => exact absurd q (Nat.not_lt.mpr (Nat.le_add_left 1 n))
    · match i, hi with
      | 0, _ => show Value.int (own_bb x) = .int (own_bb y); rw [own_e0 (x := x) (y := y) (by omega)]
      | 1, _ => show Value.int (own_bb (own_hi x)) = .int (own_bb (own_hi y)); rw [own_e0 (x := own_hi x) (y := own_hi y) (by rw [own_hiN, own_hiN]; omega)]
      | n + 2, q => exact absurd q (Nat.not_lt.mpr (Nat.le_add_left 2 n))
theorem own_pick (x y : Int32) : ∃ r : Int32, (r = 0 ∨ r = 1) ∧ (r = 1 ↔ own_S x y) ∧ (r = 1 ↔ own_S y x) ∧ (own_cn x = own_cn y → r = 1) ∧ (¬ own_cn x = own_cn y → r = 0) := by
  by_cases h : own_cn x = own_cn y
  · exact ⟨1, Or.inr rfl, ⟨fun _ => (own_Sc x y).mpr h, fun _ => rfl⟩, ⟨fun _ => (own_Sc y x).mpr h.symm, fun _ => rfl⟩, fun _ => rfl, fun q => absurd h q⟩
  · exact ⟨0, Or.inl rfl, ⟨fun q => absurd q (by decide), fun q => absurd ((own_Sc x y).mp q) h⟩, ⟨fun q => absurd q (by decide), fun q => absurd ((own_Sc y x).mp q).symm h⟩, fun q => absurd q h, fun _ => rfl⟩
def own_and (r1 r2 r3 r4 : Int32) : Int32 := if r1 = 0 then 0 else if r2 = 0 then 0 else if r3 = 0 then 0 else r4
theorem own_no {Z : State} {a0 : Array Value} {n : Nat} {K : String} (w1 : (Jvm.Cond.superclass "java/lang/String" "java/lang/Object").before a0 Z = true) (w2 : (Jvm.Cond.noSuperclass "java/lang/Object").before a0 Z = true) (w3 : (Jvm.Cond.instantiable K n).before a0 Z = true) (h1 : "java/lang/String" ≠ K) (h2 : "java/lang/Object" ≠ K) : ∃ c t, Z.vm.findClass "java/lang/String" = some c ∧ Z.vm.findClass K = some t ∧ Z.vm.assignable c t = false := by
  obtain ⟨t, k', g0, g2, g5, g7, -⟩ := Cond.instantiable_spec w3
  obtain ⟨o, ko, o1, o2, o3, -, -⟩ := Cond.noSuperclass_spec w2
  have neo := ids_ne o1 g0 h2
  have n0 : NS Z "java/lang/Object" K := ⟨o, t, o1, g0, fun fuel => by
    cases fuel with
    | zero => rfl
    | succ f => simp [Vm.isSubclassAux, neo, o2, o3]⟩
  obtain ⟨c, t', h0, g0', n3⟩ := NS.step w1 n0 h1
  cases g0.symm.trans g0'
  obtain ⟨p, k, kp, q1, q2, q3, q4, q5, -, q7⟩ := Cond.superclass_spec h0 w1
  have ne := ids_ne h0 g0 h1
  refine ⟨c, t, h0, g0, ?_⟩
  show Z.vm.assignableAux (255 + 1) c t = false
  have g7' : k'.isInterface = false := (Bool.or_eq_false_iff.mp g7).1
  simp [Vm.assignableAux, ne, q2, g2, q5, g5, g7', Vm.isSubclass, n3]
theorem own_d7_0 : decode method_3_code 0 = .ok (.iload_n 0, 1) := by decide +kernel
theorem own_d7_1 : decode method_3_code 1 = .ok (.bipush 16, 2) := by decide +kernel
theorem own_d7_3 : decode method_3_code 3 = .ok (.iushr, 1) := by decide +kernel
theorem own_d7_4 : decode method_3_code 4 = .ok (.iconst 3, 1) := by decide +kernel
theorem own_d7_5 : decode method_3_code 5 = .ok (.iand, 1) := by decide +kernel
theorem own_d7_6 : decode method_3_code 6 = .ok (.istore_n 1, 1) := by decide +kernel
theorem own_d7_7 : decode method_3_code 7 = .ok (.iload_n 1, 1) := by decide +kernel
theorem own_d7_8 : decode method_3_code 8 = .ok (.ifCond .ne 5, 3) := by decide +kernel
theorem own_d7_11 : decode method_3_code 11 = .ok (.iconst 0, 1) := by decide +kernel
theorem own_d7_12 : decode method_3_code 12 = .ok (.ireturn, 1) := by decide +kernel
theorem own_d7_13 : decode method_3_code 13 = .ok (.iload_n 1, 1) := by decide +kernel
theorem own_d7_14 : decode method_3_code 14 = .ok (.iconst 1, 1) := by decide +kernel
theorem own_d7_15 : decode method_3_code 15 = .ok (.if_icmp .ne 12, 3) := by decide +kernel
theorem own_d7_18 : decode method_3_code 18 = .ok (.ldc 12, 2) := by decide +kernel
theorem own_d7_20 : decode method_3_code 20 = .ok (.iload_n 0, 1) := by decide +kernel
theorem own_d7_21 : decode method_3_code 21 = .ok (.sipush 255, 3) := by decide +kernel
theorem own_d7_24 : decode method_3_code 24 = .ok (.iand, 1) := by decide +kernel
theorem own_d7_25 : decode method_3_code 25 = .ok (.ior, 1) := by decide +kernel
theorem own_d7_26 : decode method_3_code 26 = .ok (.ireturn, 1) := by decide +kernel
theorem own_d7_27 : decode method_3_code 27 = .ok (.ldc 13, 2) := by decide +kernel
theorem own_d7_29 : decode method_3_code 29 = .ok (.iload_n 0, 1) := by decide +kernel
theorem own_d7_30 : decode method_3_code 30 = .ok (.ldc 14, 2) := by decide +kernel
theorem own_d7_32 : decode method_3_code 32 = .ok (.iand, 1) := by decide +kernel
theorem own_d7_33 : decode method_3_code 33 = .ok (.ior, 1) := by decide +kernel
theorem own_d7_34 : decode method_3_code 34 = .ok (.ireturn, 1) := by decide +kernel
theorem own_pn3 : plainName "com/example/prudent_till/prudenttill/model/RequestKeyEqualsPinLaw" = true := by first | (simp [plainName, overriddenIn]; done) | decide +kernel
theorem own_can_ef (m : MethodId) (x : Int32) : entryFrame m #[(.int x)] 2 = mkF m 0 #[.val (.int x), .unset] [] := by first | (simp [entryFrame, mkF, argsToLocals, Value.category]; done) | rfl
def own_can_Q (Z : State) (x : Int32) (h0 : Heap) (n0 : Nat) (v : Option Value) (h : Heap) (L : List Loc) : Prop := v = some (.int (own_cn x)) ∧ Fr n0 L ∧ h = h0
set_option maxRecDepth 65536 in
set_option maxHeartbeats 40000000 in
theorem own_can (l : Launch) (Z : State) (a0 : Array Value) (hw : ∀ d ∈ tables_1, d.before a0 Z = true) (ws : List Jvm.Cond) (x : Int32) (h0 : Heap) (n0 : Nat) (Z0 : n0 ≤ h0.size) :
    MetFree l (⟨"com/example/prudent_till/prudenttill/model/RequestKeyEqualsPinLaw", "canon", "(I)I"⟩ : MethodName) (head1 (Jvm.Cond.code (⟨"com/example/prudent_till/prudenttill/model/RequestKeyEqualsPinLaw", "canon", "(I)I"⟩ : MethodName) method_3_code 2 (some .int) :: ws) ({ frames := 0, cells := 0, slots := 0, locals := 0 } : Room)) (fun as_ U => as_ = #[(.int x)] ∧ Z.Warmed39 U.vm ∧ U.heap = h0) (fun _ _ _ _ _ => True) (fun _ U_ o_ V_ => ∃ v_ L_, o_ = .returned v_ ∧ own_can_Q Z x h0 n0 v_ V_.heap L_ ∧ FrameEnd U_ o_ V_ L_ ({ frames := 0, cells := 0, slots := 0, locals := 0 } : Room).cells ({ frames := 0, cells := 0, slots := 0, locals := 0 } : Room).slots) := by
  refine MetFree.of_bodySF (plainFor_of_name own_pn3) hisR ?_
  intro p e s m args below meth c s₁ Bd hml0 hP hK
  obtain ⟨rfl, hZ, hh⟩ := hP
  have hx := Bd.exec
  have hby := Bd.bytes
  have hml : c.maxLocals = 2 := hml0
  have hown : s.vm.findClass "com/example/prudent_till/prudenttill/model/RequestKeyEqualsPinLaw" = some m.cls := findClass_of_methodNamed Bd.named
  have hnm := (name_of_methodNamed Bd.named Bd.method).1
  have X0 : Stand p l e ({ frames := 0, cells := 0, slots := 0, locals := 0 } : Room) s m #[(.int x)] below meth c s₁ [] 0 0 := Stand.of_body Bd
  have e0 : s₁.heap = h0 := by rw [← hh, Bd.state]; rfl
  have N0 := Fr.nil n0
  refine own_begin (own_can_ef m x) ?_
  show Ends p.tables e below (s₁.setTop (mkF m 0 #[.val (.int x), .unset] [])) _
  refine s_iloadN (pc' := 1) X0.here hx (hb hby own_d7_0) rfl rfl ?_
  refine s_bipush (pc' := 3) X0.here hx (v := (16 : Int32)) (hb hby own_d7_1) rfl rfl ?_
  refine s_iushr (pc' := 4) X0.here hx (hb hby own_d7_3) rfl ?_
  refine s_iconst (pc' := 5) X0.here hx (v := (3 : Int32)) (hb hby own_d7_4) rfl rfl ?_
  refine s_iand (pc' := 6) X0.here hx (hb hby own_d7_5) rfl ?_
  refine s_istoreN (pc' := 7) X0.here hx (l' := #[.val (.int x), .val (.int (((x.toUInt32 >>> ((16 : Int32) &&& 31).toUInt32).toInt32) &&& (3 : Int32)))]) (hb hby own_d7_6) rfl rfl ?_
  refine s_iloadN (pc' := 8) X0.here hx (hb hby own_d7_7) rfl rfl ?_
  by_cases h0_ : (((x.toUInt32 >>> ((16 : Int32) &&& 31).toUInt32).toInt32) &&& (3 : Int32)) = (0 : Int32)
  · refine s_ifNo (pc' := 11) X0.here hx (hb hby own_d7_8) ((if0 _ _).trans (teq h0_).2) rfl ?_
    refine s_iconst (pc' := 12) X0.here hx (v := (0 : Int32)) (hb hby own_d7_11) rfl rfl ?_
    obtain ⟨fs, hr, hrun, hended, hW, hsame⟩ := X0.leave (v := some (.int (0 : Int32))) (fun h => by rw [Bd.returns] at h; cases h)
    refine ⟨_, _, retOut X0 hx Bd.returns rfl (Or.inl ⟨rfl, Or.inl rfl, _, rfl⟩) (hb hby own_d7_12) hr, hrun, hended, _, _, rfl, ?_, ⟨_, rfl⟩, hW, hsame.mono (by decide) (by decide)⟩
    show own_can_Q Z x h0 n0 _ s₁.heap _
    rw [e0]
    exact ⟨by unfold own_cn; rw [if_pos (show own_t x = 0 from h0_)], N0, rfl⟩
  · refine s_ifYes (pc' := 13) X0.here hx (hb hby own_d7_8) ((if0 _ _).trans (feq h0_).2) (by decide) (by decide) ?_
    refine s_iloadN (pc' := 14) X0.here hx (hb hby own_d7_13) rfl rfl ?_
    refine s_iconst (pc' := 15) X0.here hx (v := (1 : Int32)) (hb hby own_d7_14) rfl rfl ?_
    by_cases h1_ : (((x.toUInt32 >>> ((16 : Int32) &&& 31).toUInt32).toInt32) &&& (3 : Int32)) = (1 : Int32)
    · refine s_icmpNo (pc' := 18) X0.here hx (hb hby own_d7_15) (teq h1_).2 rfl ?_
      refine s_ldcI (pc' := 20) X0 hx hZ hown (hw _ (List.mem_of_getElem? (i := 85) rfl)) (hb hby own_d7_18) rfl ?_
      refine s_iloadN (pc' := 21) X0.here hx (hb hby own_d7_20) rfl rfl ?_
      refine s_sipush (pc' := 24) X0.here hx (v := (255 : Int32)) (hb hby own_d7_21) rfl rfl ?_
      refine s_iand (pc' := 25) X0.here hx (hb hby own_d7_24) rfl ?_
      refine s_ior (pc' := 26) X0.here hx (hb hby own_d7_25) rfl ?_
      obtain ⟨fs, hr, hrun, hended, hW, hsame⟩ := X0.leave (v := some (.int ((65536 : Int32) ||| (x &&& (255 : Int32))))) (fun h => by rw [Bd.returns] at h; cases h)
      refine ⟨_, _, retOut X0 hx Bd.returns rfl (Or.inl ⟨rfl, Or.inl rfl, _, rfl⟩) (hb hby own_d7_26) hr, hrun, hended, _, _, rfl, ?_, ⟨_, rfl⟩, hW, hsame.mono (by decide) (by decide)⟩
      show own_can_Q Z x h0 n0 _ s₁.heap _
      rw [e0]
      exact ⟨by unfold own_cn; rw [if_neg (show ¬ own_t x = 0 from h0_), if_pos (show own_t x = 1 from h1_)], N0, rfl⟩
    · refine s_icmpYes (pc' := 27) X0.here hx (hb hby own_d7_15) (feq h1_).2 (by decide) (by decide) ?_
      refine s_ldcI (pc' := 29) X0 hx hZ hown (hw _ (List.mem_of_getElem? (i := 83) rfl)) (hb hby own_d7_27) rfl ?_
      refine s_iloadN (pc' := 30) X0.here hx (hb hby own_d7_29) rfl rfl ?_
      refine s_ldcI (pc' := 32) X0 hx hZ hown (hw _ (List.mem_of_getElem? (i := 84) rfl)) (hb hby own_d7_30) rfl ?_
      refine s_iand (pc' := 33) X0.here hx (hb hby own_d7_32) rfl ?_
      refine s_ior (pc' := 34) X0.here hx (hb hby own_d7_33) rfl ?_
      obtain ⟨fs, hr, hrun, hended, hW, hsame⟩ := X0.leave (v := some (.int ((131072 : Int32) ||| (x &&& (65535 : Int32))))) (fun h => by rw [Bd.returns] at h; cases h)
      refine ⟨_, _, retOut X0 hx Bd.returns rfl (Or.inl ⟨rfl, Or.inl rfl, _, rfl⟩) (hb hby own_d7_34) hr, hrun, hended, _, _, rfl, ?_, ⟨_, rfl⟩, hW, hsame.mono (by decide) (by decide)⟩
      show own_can_Q Z x h0 n0 _ s₁.heap _
      rw [e0]
      exact ⟨by unfold own_cn; rw [if_neg (show ¬ own_t x = 0 from h0_), if_neg (show ¬ own_t x = 1 from h1_)], N0, rfl⟩
theorem own_d1_0 : decode method_2_code 0 = .ok (.iload_n 0, 1) := by decide +kernel
theorem own_d1_1 : decode method_2_code 1 = .ok (.bipush 16, 2) := by decide +kernel
theorem own_d1_3 : decode method_2_code 3 = .ok (.iushr, 1) := by decide +kernel
theorem own_d1_4 : decode method_2_code 4 = .ok (.iconst 3, 1) := by decide +kernel
theorem own_d1_5 : decode method_2_code 5 = .ok (.iand, 1) := by decide +kernel
theorem own_d1_6 : decode method_2_code 6 = .ok (.istore_n 1, 1) := by decide +kernel
theorem own_d1_7 : decode method_2_code 7 = .ok (.iload_n 1, 1) := by decide +kernel
theorem own_d1_8 : decode method_2_code 8 = .ok (.ifCond .ne 14, 3) := by decide +kernel
theorem own_d1_22 : decode method_2_code 22 = .ok (.iload_n 0, 1) := by decide +kernel
theorem own_d1_23 : decode method_2_code 23 = .ok (.sipush 255, 3) := by decide +kernel
theorem own_d1_26 : decode method_2_code 26 = .ok (.iand, 1) := by decide +kernel
theorem own_d1_27 : decode method_2_code 27 = .ok (.i2c, 1) := by decide +kernel
theorem own_d1_28 : decode method_2_code 28 = .ok (.istore_n 2, 1) := by decide +kernel
theorem own_d1_29 : decode method_2_code 29 = .ok (.iload_n 1, 1) := by decide +kernel
theorem own_d1_30 : decode method_2_code 30 = .ok (.iconst 1, 1) := by decide +kernel
theorem own_d1_31 : decode method_2_code 31 = .ok (.if_icmp .ne 20, 3) := by decide +kernel
theorem own_d1_11 : decode method_2_code 11 = .ok (.new 7, 3) := by decide +kernel
theorem own_d1_14 : decode method_2_code 14 = .ok (.dup, 1) := by decide +kernel
theorem own_d1_15 : decode method_2_code 15 = .ok (.iconst 0, 1) := by decide +kernel
theorem own_d1_16 : decode method_2_code 16 = .ok (.newarray .char, 2) := by decide +kernel
theorem own_d1_18 : decode method_2_code 18 = .ok (.invokespecial 9, 3) := by decide +kernel
theorem own_pd5 : parseMethodDescriptor "([C)V" = some ⟨[(.array .char)], none⟩ := by decide +kernel
theorem own_d1_21 : decode method_2_code 21 = .ok (.areturn, 1) := by decide +kernel
theorem own_d1_34 : decode method_2_code 34 = .ok (.iconst 1, 1) := by decide +kernel
theorem own_d1_35 : decode method_2_code 35 = .ok (.newarray .char, 2) := by decide +kernel
theorem own_d1_37 : decode method_2_code 37 = .ok (.astore_n 3, 1) := by decide +kernel
theorem own_d1_38 : decode method_2_code 38 = .ok (.aload_n 3, 1) := by decide +kernel
theorem own_d1_39 : decode method_2_code 39 = .ok (.iconst 0, 1) := by decide +kernel
theorem own_d1_40 : decode method_2_code 40 = .ok (.iload_n 2, 1) := by decide +kernel
theorem own_d1_41 : decode method_2_code 41 = .ok (.castore, 1) := by decide +kernel
theorem own_d1_42 : decode method_2_code 42 = .ok (.new 7, 3) := by decide +kernel
theorem own_d1_45 : decode method_2_code 45 = .ok (.dup, 1) := by decide +kernel
theorem own_d1_46 : decode method_2_code 46 = .ok (.aload_n 3, 1) := by decide +kernel
theorem own_d1_47 : decode method_2_code 47 = .ok (.invokespecial 9, 3) := by decide +kernel
theorem own_d1_50 : decode method_2_code 50 = .ok (.areturn, 1) := by decide +kernel
theorem own_d1_51 : decode method_2_code 51 = .ok (.iconst 2, 1) := by decide +kernel
theorem own_d1_52 : decode method_2_code 52 = .ok (.newarray .char, 2) := by decide +kernel
theorem own_d1_54 : decode method_2_code 54 = .ok (.astore_n 3, 1) := by decide +kernel
theorem own_d1_55 : decode method_2_code 55 = .ok (.aload_n 3, 1) := by decide +kernel
theorem own_d1_56 : decode method_2_code 56 = .ok (.iconst 0, 1) := by decide +kernel
theorem own_d1_57 : decode method_2_code 57 = .ok (.iload_n 2, 1) := by decide +kernel
theorem own_d1_58 : decode method_2_code 58 = .ok (.castore, 1) := by decide +kernel
theorem own_d1_59 : decode method_2_code 59 = .ok (.aload_n 3, 1) := by decide +kernel
theorem own_d1_60 : decode method_2_code 60 = .ok (.iconst 1, 1) := by decide +kernel
theorem own_d1_61 : decode method_2_code 61 = .ok (.iload_n 0, 1) := by decide +kernel
theorem own_d1_62 : decode method_2_code 62 = .ok (.bipush 8, 2) := by decide +kernel
theorem own_d1_64 : decode method_2_code 64 = .ok (.iushr, 1) := by decide +kernel
theorem own_d1_65 : decode method_2_code 65 = .ok (.sipush 255, 3) := by decide +kernel
theorem own_d1_68 : decode method_2_code 68 = .ok (.iand, 1) := by decide +kernel
theorem own_d1_69 : decode method_2_code 69 = .ok (.i2c, 1) := by decide +kernel
theorem own_d1_70 : decode method_2_code 70 = .ok (.castore, 1) := by decide +kernel
theorem own_d1_71 : decode method_2_code 71 = .ok (.new 7, 3) := by decide +kernel
theorem own_d1_74 : decode method_2_code 74 = .ok (.dup, 1) := by decide +kernel
theorem own_d1_75 : decode method_2_code 75 = .ok (.aload_n 3, 1) := by decide +kernel
theorem own_d1_76 : decode method_2_code 76 = .ok (.invokespecial 9, 3) := by decide +kernel
theorem own_d1_79 : decode method_2_code 79 = .ok (.areturn, 1) := by decide +kernel
theorem own_str_ef (m : MethodId) (x : Int32) (cs : Int32) : entryFrame m #[(.int x)] 4 = mkF m 0 #[.val (.int x), .unset, .unset, .unset] [] := by first | (simp [entryFrame, mkF, argsToLocals, Value.category]; done) | rfl
def own_str_Q (Z : State) (x : Int32) (cs : Int32) (h0 : Heap) (n0 : Nat) (v : Option Value) (h : Heap) (L : List Loc) : Prop := ∃ a b kb, v = some (.ref a) ∧ Fr n0 L ∧ Keep h0 h [] ∧ h0.size ≤ a ∧ Exa Z h a "java/lang/String" ∧ Fld Z h a "java/lang/String" "coder" "B" (.int (0 : Int32)) ∧ Fld Z h a "java/lang/String" "value" "[B" (.ref b) ∧ Arv Z h b kb .byte (own_len x) (own_tx x) (.int (0 : Int32))
set_option maxRecDepth 65536 in
set_option maxHeartbeats 40000000 in
theorem own_str (l : Launch) (Z : State) (a0 : Array Value) (hw : ∀ d ∈ tables_1, d.before a0 Z = true) (ws : List Jvm.Cond) (x : Int32) (cs : Int32) (h0 : Heap) (n0 : Nat) (Z0 : n0 ≤ h0.size) (O0 : Old Z n0 h0) (S_cs : Sta Z Z.heap "java/lang/String" "COMPACT_STRINGS" "Z" (.int cs)) (hcs : ¬ cs = (0 : Int32)) :
    MetFree l (⟨"com/example/prudent_till/prudenttill/model/RequestKeyEqualsPinLaw", "str", "(I)Ljava/lang/String;"⟩ : MethodName) (head1 (Jvm.Cond.code (⟨"com/example/prudent_till/prudenttill/model/RequestKeyEqualsPinLaw", "str", "(I)Ljava/lang/String;"⟩ : MethodName) method_2_code 4 (some (.object "java/lang/String")) :: ws) ({ frames := 4, cells := 6, slots := 12, locals := 66 } : Room)) (fun as_ U => as_ = #[(.int x)] ∧ Z.Warmed39 U.vm ∧ U.heap = h0 ∧ CHv Z consts_1 U.vm h0 ∧ ∀ x_ ∈ ([] : List Addr), Safe Z consts_1 U.vm h0 x_) (fun _ _ _ _ _ => True) (fun _ U_ o_ V_ => ∃ v_ L_, o_ = .returned v_ ∧ own_str_Q Z x cs h0 n0 v_ V_.heap L_ ∧ CHr Z consts_1 U_.vm U_.heap V_.vm V_.heap ∧ ReturnedEndW U_ o_ V_ L_ ({ frames := 4, cells := 6, slots := 12, locals := 66 } : Room).cells ({ frames := 4, cells := 6, slots := 12, locals := 66 } : Room).slots) := by
  refine MetFree.of_bodySF (plainFor_of_name own_pn3) hisR ?_
  intro p e s m args below meth c s₁ Bd hml0 hP hK
  obtain ⟨rfl, hZ, hh, HC0, hsf0⟩ := hP
  have hx := Bd.exec
  have hby := Bd.bytes
  have hml : c.maxLocals = 4 := hml0
  have hown : s.vm.findClass "com/example/prudent_till/prudenttill/model/RequestKeyEqualsPinLaw" = some m.cls := findClass_of_methodNamed Bd.named
  have hnm := (name_of_methodNamed Bd.named Bd.method).1
  have X0 : Stand p l e ({ frames := 4, cells := 6, slots := 12, locals := 66 } : Room) s m #[(.int x)] below meth c s₁ [] 0 0 := Stand.of_body Bd
  have e0 : s₁.heap = h0 := by rw [← hh, Bd.state]; rfl
  have N0 := Fr.nil n0
  refine own_begin (own_str_ef m x cs) ?_
  show Ends p.tables e below (s₁.setTop (mkF m 0 #[.val (.int x), .unset, .unset, .unset] [])) _
  have Kr0 : Keep h0 h0 [] := Keep.refl h0 _
  have HR0 : CHr Z consts_1 s.vm h0 s.vm h0 := CHr.refl HC0
  have X0w : Stand p l e ({ frames := 4, cells := 6, slots := 12, locals := 66 } : Room) (s.setVm s.vm) m #[(.int x)] below meth c s₁ [] 0 0 := X0
  have hS : s.Since s.vm 0 := (State.WarmedH.refl s).since 0
  have hk : 0 ≤ h0.size := Nat.zero_le _
  refine s_iloadN (pc' := 1) X0w.here hx (hb hby own_d1_0) rfl rfl ?_
  refine s_bipush (pc' := 3) X0w.here hx (v := (16 : Int32)) (hb hby own_d1_1) rfl rfl ?_
  refine s_iushr (pc' := 4) X0w.here hx (hb hby own_d1_3) rfl ?_
  refine s_iconst (pc' := 5) X0w.here hx (v := (3 : Int32)) (hb hby own_d1_4) rfl rfl ?_
  refine s_iand (pc' := 6) X0w.here hx (hb hby own_d1_5) rfl ?_
  refine s_istoreN (pc' := 7) X0w.here hx (l' := #[.val (.int x), .val (.int (((x.toUInt32 >>> ((16 : Int32) &&& 31).toUInt32).toInt32) &&& (3 : Int32))), .unset, .unset]) (hb hby own_d1_6) rfl rfl ?_
  refine s_iloadN (pc' := 8) X0w.here hx (hb hby own_d1_7) rfl rfl ?_
  by_cases h0_ : (((x.toUInt32 >>> ((16 : Int32) &&& 31).toUInt32).toInt32) &&& (3 : Int32)) = (0 : Int32)
  · refine s_ifNo (pc' := 11) X0w.here hx (hb hby own_d1_8) ((if0 _ _).trans (teq h0_).2) rfl ?_
    refine s_newO (pc' := 14) X0w hx hZ hown (hw _ (List.mem_of_getElem? (i := 7) rfl)) (hw _ (List.mem_of_getElem? (i := 8) rfl)) (hw _ (List.mem_of_getElem? (i := 9) rfl)) e0 (hb hby own_d1_11) (by decide) (by decide) rfl fun T1 hp1 X1 e1 E1 a gq1 A1 D1 => ?_
    have g_a : n0 ≤ a := Nat.le_trans Z0 (Nat.le_of_eq gq1.symm)
    have sz_a : h0.size ≤ a := Nat.le_trans Kr0.1 (Nat.le_of_eq gq1.symm)
    have sf2 := Safe.ext E1 HC0 (Safe.new (Nat.le_of_eq gq1.symm))
    have HR3 := CHr.trans HR0 (CHr.ext E1 HC0)
    have HC4 := CHv.ext E1 HC0
    have O5 := O0.ext E1
    replace hk := Nat.le_trans hk E1.1
    have Z6 : n0 ≤ hp1.size := Nat.le_trans Z0 E1.1
    have K7 : Keep h0 hp1 [] := Kr0.ext E1
    have F8 : Fld Z hp1 a "java/lang/String" "value" "[B" .null := D1 (Or.inr (hw _ (List.mem_of_getElem? (i := 23) rfl))) (ty := (.array .byte)) (by decide)
    have F9 : Fld Z hp1 a "java/lang/String" "coder" "B" (.int (0 : Int32)) := D1 (Or.inr (hw _ (List.mem_of_getElem? (i := 24) rfl))) (ty := .byte) (by decide)
    refine s_dup (pc' := 15) X1.here hx (hb hby own_d1_14) rfl rfl ?_
    refine s_iconst (pc' := 16) X1.here hx (v := (0 : Int32)) (hb hby own_d1_15) rfl rfl ?_
    refine s_newP (pc' := 18) (cap := 0) X1 hx hZ (hw _ (List.mem_of_getElem? (i := 10) rfl)) e1 (hb hby own_d1_16) (by decide) (by decide) (by decide) (by decide) (by decide) rfl fun T10 hp10 X10 e10 ka10 E10 ca gq10 A10 => ?_
    have g_ca : n0 ≤ ca := Nat.le_trans Z6 (Nat.le_of_eq gq10.symm)
    have sz_ca : h0.size ≤ ca := Nat.le_trans K7.1 (Nat.le_of_eq gq10.symm)
    have ne11 : a ≠ ca := Nat.ne_of_lt (Nat.lt_of_lt_of_le A1.lt (Nat.le_of_eq gq10.symm))
    have sf12 := Safe.ext E10 HC4 (Safe.new (Nat.le_of_eq gq10.symm))
    have sf13 := Safe.ext E10 HC4 sf2
    have HR14 := CHr.trans HR3 (CHr.ext E10 HC4)
    have HC15 := CHv.ext E10 HC4
    have O16 := O5.ext E10
    have f17 := A1.ext E10
    have f18 := F8.ext E10
    have f19 := F9.ext E10
    replace hk := Nat.le_trans hk E10.1
    have Z20 : n0 ≤ hp10.size := Nat.le_trans Z6 E10.1
    have K21 : Keep h0 hp10 [] := K7.ext E10
    have V22 : Arv Z hp10 ca ka10 .char (0 : Int32) [] (.int (0 : Int32)) := (Arv.new A10 (by decide)).pad (pad_rep [] (.int (0 : Int32)) 0)
    refine s_callIH (pc' := 21) (W := 1) X10 hx hZ hS hk (own_EW hw) HC15  hown rfl (hw _ (List.mem_of_getElem? (i := 11) rfl)) (hw _ (List.mem_of_getElem? (i := 12) rfl)) (hw _ (List.mem_of_getElem? (i := 9) rfl)) (hw _ (List.mem_of_getElem? (i := 13) rfl)) (by decide) e10 (own_si1_0 l Z a0 hw [] a ca ka10 hp10 n0 Z20 f18 f19 f17 g_a V22) (own_safeS f17.lt sf13 own_safe0) a (by rw [hml]; rfl) [(.ref ca)] [(.ref a)] rfl (lenOf own_pd5 rfl) rfl (Nat.le_of_eq rfl) (by decide) (by decide) (by decide) (by decide) rfl (hb hby own_d1_18) fun T23 v23 Lc23 X23 hS hZ hown hr23 hQ23 => ?_
    obtain ⟨b, kb, rfl, Nq23, Kq23, Ea, Fc, Fv, Vb⟩ := hQ23
    have sf24 := CHr.safe hr23 f17.lt sf13
    have sf25 := CHr.safe hr23 V22.lt sf12
    have HR26 := CHr.trans HR14 (hr23)
    have HC27 := hr23.1
    have O28 := O16.keep Kq23 (allS g_a all0)
    have N23 := Fr.app N0 Nq23
    have hk : T23.heap.size ≤ T23.heap.size := Nat.le_refl _
    have f29 := f17.keep Kq23
    have Z30 : n0 ≤ T23.heap.size := Nat.le_trans Z20 Kq23.1
    have K31 : Keep h0 T23.heap [] := K21.trans Kq23 (allS (Or.inr sz_a) all0)
    show Ends p.tables e below (T23.setTop (mkF m 21 #[.val (.int x), .val (.int (((x.toUInt32 >>> ((16 : Int32) &&& 31).toUInt32).toInt32) &&& (3 : Int32))), .unset, .unset] [(.ref a)])) _
    have hle : own_len x = (0 : Int32) := by unfold own_len; rw [if_pos (show own_t x = 0 from h0_)]
    obtain ⟨fs, hr, hrun, hended, hRW⟩ := X23.leaveW hS (show _ ≤ T23.heap.size from hk) (v := some (.ref a)) (fun h => by rw [Bd.returns] at h; cases h)
    have hfin : CHr Z consts_1 s.vm s.heap T23.vm T23.heap := by rw [hh]; exact CHr.trans HR26 (CHv.at X23 hZ (own_EW hw) HC27)
    refine ⟨_, _, retOut X23 hx Bd.returns rfl (Or.inr (Or.inr (Or.inr (Or.inr ⟨rfl, rfl, rfl⟩)))) (hb hby own_d1_21) hr, hrun, hended, _, _, rfl, ?_, hfin, own_rwm hRW (by decide) (by decide)⟩
    show own_str_Q Z x cs h0 n0 _ T23.heap _
    exact ⟨a, b, kb, rfl, N23, K31, sz_a, Ea, Fc, Fv, own_txN hle rfl Vb⟩
  · refine s_ifYes (pc' := 22) X0w.here hx (hb hby own_d1_8) ((if0 _ _).trans (feq h0_).2) (by decide) (by decide) ?_
    refine s_iloadN (pc' := 23) X0w.here hx (hb hby own_d1_22) rfl rfl ?_
    refine s_sipush (pc' := 26) X0w.here hx (v := (255 : Int32)) (hb hby own_d1_23) rfl rfl ?_
    refine s_iand (pc' := 27) X0w.here hx (hb hby own_d1_26) rfl ?_
    refine s_i2c (pc' := 28) X0w.here hx (hb hby own_d1_27) rfl ?_
    refine s_istoreN (pc' := 29) X0w.here hx (l' := #[.val (.int x), .val (.int (((x.toUInt32 >>> ((16 : Int32) &&& 31).toUInt32).toInt32) &&& (3 : Int32))), .val (.int ((x &&& (255 : Int32)).toUInt32.toUInt16.toUInt32.toInt32)), .unset]) (hb hby own_d1_28) rfl rfl ?_
    refine s_iloadN (pc' := 30) X0w.here hx (hb hby own_d1_29) rfl rfl ?_
    refine s_iconst (pc' := 31) X0w.here hx (v := (1 : Int32)) (hb hby own_d1_30) rfl rfl ?_
    by_cases h1_ : (((x.toUInt32 >>> ((16 : Int32) &&& 31).toUInt32).toInt32) &&& (3 : Int32)) = (1 : Int32)
    · refine s_icmpNo (pc' := 34) X0w.here hx (hb hby own_d1_31) (teq h1_).2 rfl ?_
      refine s_iconst (pc' := 35) X0w.here hx (v := (1 : Int32)) (hb hby own_d1_34) rfl rfl ?_
      refine s_newP (pc' := 37) (cap := 1) X0w hx hZ (hw _ (List.mem_of_getElem? (i := 10) rfl)) e0 (hb hby own_d1_35) (by decide) (by decide) (by decide) (by decide) (by decide) rfl fun T32 hp32 X32 e32 ka32 E32 ca gq32 A32 => ?_
      have g_ca : n0 ≤ ca := Nat.le_trans Z0 (Nat.le_of_eq gq32.symm)
      have sz_ca : h0.size ≤ ca := Nat.le_trans Kr0.1 (Nat.le_of_eq gq32.symm)
      have sf33 := Safe.ext E32 HC0 (Safe.new (Nat.le_of_eq gq32.symm))
      have HR34 := CHr.trans HR0 (CHr.ext E32 HC0)
      have HC35 := CHv.ext E32 HC0
      have O36 := O0.ext E32
      replace hk := Nat.le_trans hk E32.1
      have Z37 : n0 ≤ hp32.size := Nat.le_trans Z0 E32.1
      have K38 : Keep h0 hp32 [] := Kr0.ext E32
      have V39 : Arv Z hp32 ca ka32 .char (1 : Int32) [(.int (0 : Int32))] (.int (0 : Int32)) := (Arv.new A32 (by decide)).pad (pad_rep [] (.int (0 : Int32)) 1)
      refine s_astoreN (pc' := 38) X32.here hx (l' := #[.val (.int x), .val (.int (((x.toUInt32 >>> ((16 : Int32) &&& 31).toUInt32).toInt32) &&& (3 : Int32))), .val (.int ((x &&& (255 : Int32)).toUInt32.toUInt16.toUInt32.toInt32)), .val (.ref ca)]) (hb hby own_d1_37) rfl rfl rfl ?_
      refine s_aloadN (pc' := 39) X32.here hx (hb hby own_d1_38) rfl rfl rfl ?_
      refine s_iconst (pc' := 40) X32.here hx (v := (0 : Int32)) (hb hby own_d1_39) rfl rfl ?_
      refine s_iloadN (pc' := 41) X32.here hx (hb hby own_d1_40) rfl rfl ?_
      refine s_putC (pc' := 42) X32 hx hZ e32 V39 ⟨by decide, by decide⟩ 0 rfl (Nat.le_of_ble_eq_true rfl) (hb hby own_d1_41) rfl fun T40 hp40 X40 e40 W40 Vw40 => ?_
      have V41 : Arv Z hp40 ca ka32 .char (1 : Int32) [(.int (nar .char ((x &&& (255 : Int32)).toUInt32.toUInt16.toUInt32.toInt32)))] (.int (0 : Int32)) := Vw40
      have N40 := Fr.snoc X40 N0 g_ca
      have sf42 := Safe.wr W40 sf33 HC35 sf33
      have HR43 := CHr.trans HR34 (CHr.wr W40 sf33 HC35)
      have HC44 := CHv.wr W40 sf33 HC35
      have O45 := O36.wr W40 g_ca
      replace hk := Nat.le_trans hk (Keep.of_wr W40).1
      have Z46 : n0 ≤ hp40.size := Nat.le_trans Z37 (Keep.of_wr W40).1
      have K47 : Keep h0 hp40 [] := K38.wr W40 (Or.inr sz_ca)
      refine s_newO (pc' := 45) X40 hx hZ hown (hw _ (List.mem_of_getElem? (i := 7) rfl)) (hw _ (List.mem_of_getElem? (i := 8) rfl)) (hw _ (List.mem_of_getElem? (i := 9) rfl)) e40 (hb hby own_d1_42) (by decide) (by decide) rfl fun T48 hp48 X48 e48 E48 a gq48 A48 D48 => ?_
      have g_a : n0 ≤ a := Nat.le_trans Z46 (Nat.le_of_eq gq48.symm)
      have sz_a : h0.size ≤ a := Nat.le_trans K47.1 (Nat.le_of_eq gq48.symm)
      have ne49 : ca ≠ a := Nat.ne_of_lt (Nat.lt_of_lt_of_le V41.lt (Nat.le_of_eq gq48.symm))
      have sf50 := Safe.ext E48 HC44 (Safe.new (Nat.le_of_eq gq48.symm))
      have sf51 := Safe.ext E48 HC44 sf42
      have HR52 := CHr.trans HR43 (CHr.ext E48 HC44)
      have HC53 := CHv.ext E48 HC44
      have O54 := O45.ext E48
      have f55 := V41.ext E48
      replace hk := Nat.le_trans hk E48.1
      have Z56 : n0 ≤ hp48.size := Nat.le_trans Z46 E48.1
      have K57 : Keep h0 hp48 [] := K47.ext E48
      have F58 : Fld Z hp48 a "java/lang/String" "value" "[B" .null := D48 (Or.inr (hw _ (List.mem_of_getElem? (i := 23) rfl))) (ty := (.array .byte)) (by decide)
      have F59 : Fld Z hp48 a "java/lang/String" "coder" "B" (.int (0 : Int32)) := D48 (Or.inr (hw _ (List.mem_of_getElem? (i := 24) rfl))) (ty := .byte) (by decide)
      refine s_dup (pc' := 46) X48.here hx (hb hby own_d1_45) rfl rfl ?_
      refine s_aloadN (pc' := 47) X48.here hx (hb hby own_d1_46) rfl rfl rfl ?_
      refine s_callI (pc' := 50) (W := 1) X48 hx hZ  rfl hown (hw _ (List.mem_of_getElem? (i := 11) rfl)) (hw _ (List.mem_of_getElem? (i := 12) rfl)) (hw _ (List.mem_of_getElem? (i := 9) rfl)) (hw _ (List.mem_of_getElem? (i := 13) rfl)) (by decide) e48 (own_si1_1 l Z a0 hw [] a ca ka32 cs _ hp48 n0 Z56 O54 S_cs hcs F58 F59 A48 g_a f55 (own_le x)) a (by rw [hml]; rfl) [(.ref ca)] [(.ref a)] rfl (lenOf own_pd5 rfl) rfl (Nat.le_of_eq rfl) (by decide) (by decide) (by decide) (by decide) rfl (hb hby own_d1_47) fun T60 v60 Lc60 X60 hQ60 => ?_
      obtain ⟨b, kb, rfl, Nq60, Kq60, szb, Ea, Fc, Fv, Vb⟩ := hQ60
      have hs61 := ((sfS sf50 sf0) : ∀ y_ ∈ ([a] : List Addr), Safe Z consts_1 _ _ y_)
      have sf62 := Safe.keep Kq60 hs61 HC53 sf51
      have sf63 := Safe.keep Kq60 hs61 HC53 sf50
      have HR64 := CHr.trans HR52 (CHr.keep Kq60 hs61 HC53)
      have HC65 := CHv.keep Kq60 hs61 HC53
      have O66 := O54.keep Kq60 (allS g_a all0)
      have N60 := Fr.app N40 Nq60
      have f67 := A48.keep Kq60
      have Z68 : n0 ≤ T60.heap.size := Nat.le_trans Z56 Kq60.1
      replace hk := Nat.le_trans hk Kq60.1
      have K69 : Keep h0 T60.heap [] := K57.trans Kq60 (allS (Or.inr sz_a) all0)
      show Ends p.tables e below (T60.setTop (mkF m 50 #[.val (.int x), .val (.int (((x.toUInt32 >>> ((16 : Int32) &&& 31).toUInt32).toInt32) &&& (3 : Int32))), .val (.int ((x &&& (255 : Int32)).toUInt32.toUInt16.toUInt32.toInt32)), .val (.ref ca)] [(.ref a)])) _
      have hle : own_len x = (1 : Int32) := by unfold own_len; rw [if_neg (show ¬ own_t x = 0 from h0_), if_pos (show own_t x = 1 from h1_)]
      obtain ⟨fs, hr, hrun, hended, hRW⟩ := X60.leaveW hS (show _ ≤ T60.heap.size from hk) (v := some (.ref a)) (fun h => by rw [Bd.returns] at h; cases h)
      have hfin : CHr Z consts_1 s.vm s.heap T60.vm T60.heap := by rw [hh]; exact CHr.trans HR64 (CHv.at X60 hZ (own_EW hw) HC65)
      refine ⟨_, _, retOut X60 hx Bd.returns rfl (Or.inr (Or.inr (Or.inr (Or.inr ⟨rfl, rfl, rfl⟩)))) (hb hby own_d1_50) hr, hrun, hended, _, _, rfl, ?_, hfin, own_rwm hRW (by decide) (by decide)⟩
      show own_str_Q Z x cs h0 n0 _ T60.heap _
      exact ⟨a, b, kb, rfl, N60, K69, sz_a, Ea, Fc, Fv, own_txN hle rfl Vb⟩
    · refine s_icmpYes (pc' := 51) X0w.here hx (hb hby own_d1_31) (feq h1_).2 (by decide) (by decide) ?_
      refine s_iconst (pc' := 52) X0w.here hx (v := (2 : Int32)) (hb hby own_d1_51) rfl rfl ?_
      refine s_newP (pc' := 54) (cap := 2) X0w hx hZ (hw _ (List.mem_of_getElem? (i := 10) rfl)) e0 (hb hby own_d1_52) (by decide) (by decide) (by decide) (by decide) (by decide) rfl fun T70 hp70 X70 e70 ka70 E70 ca gq70 A70 => ?_
      have g_ca : n0 ≤ ca := Nat.le_trans Z0 (Nat.le_of_eq gq70.symm)
      have sz_ca : h0.size ≤ ca := Nat.le_trans Kr0.1 (Nat.le_of_eq gq70.symm)
      have sf71 := Safe.ext E70 HC0 (Safe.new (Nat.le_of_eq gq70.symm))
      have HR72 := CHr.trans HR0 (CHr.ext E70 HC0)
      have HC73 := CHv.ext E70 HC0
      have O74 := O0.ext E70
      replace hk := Nat.le_trans hk E70.1
      have Z75 : n0 ≤ hp70.size := Nat.le_trans Z0 E70.1
      have K76 : Keep h0 hp70 [] := Kr0.ext E70
      have V77 : Arv Z hp70 ca ka70 .char (2 : Int32) [(.int (0 : Int32)), (.int (0 : Int32))] (.int (0 : Int32)) := (Arv.new A70 (by decide)).pad (pad_rep [] (.int (0 : Int32)) 2)
      refine s_astoreN (pc' := 55) X70.here hx (l' := #[.val (.int x), .val (.int (((x.toUInt32 >>> ((16 : Int32) &&& 31).toUInt32).toInt32) &&& (3 : Int32))), .val (.int ((x &&& (255 : Int32)).toUInt32.toUInt16.toUInt32.toInt32)), .val (.ref ca)]) (hb hby own_d1_54) rfl rfl rfl ?_
      refine s_aloadN (pc' := 56) X70.here hx (hb hby own_d1_55) rfl rfl rfl ?_
      refine s_iconst (pc' := 57) X70.here hx (v := (0 : Int32)) (hb hby own_d1_56) rfl rfl ?_
      refine s_iloadN (pc' := 58) X70.here hx (hb hby own_d1_57) rfl rfl ?_
      refine s_putC (pc' := 59) X70 hx hZ e70 V77 ⟨by decide, by decide⟩ 0 rfl (Nat.le_of_ble_eq_true rfl) (hb hby own_d1_58) rfl fun T78 hp78 X78 e78 W78 Vw78 => ?_
      have V79 : Arv Z hp78 ca ka70 .char (2 : Int32) [(.int (nar .char ((x &&& (255 : Int32)).toUInt32.toUInt16.toUInt32.toInt32))), (.int (0 : Int32))] (.int (0 : Int32)) := Vw78
      have N78 := Fr.snoc X78 N0 g_ca
      have sf80 := Safe.wr W78 sf71 HC73 sf71
      have HR81 := CHr.trans HR72 (CHr.wr W78 sf71 HC73)
      have HC82 := CHv.wr W78 sf71 HC73
      have O83 := O74.wr W78 g_ca
      replace hk := Nat.le_trans hk (Keep.of_wr W78).1
      have Z84 : n0 ≤ hp78.size := Nat.le_trans Z75 (Keep.of_wr W78).1
      have K85 : Keep h0 hp78 [] := K76.wr W78 (Or.inr sz_ca)
      refine s_aloadN (pc' := 60) X78.here hx (hb hby own_d1_59) rfl rfl rfl ?_
      refine s_iconst (pc' := 61) X78.here hx (v := (1 : Int32)) (hb hby own_d1_60) rfl rfl ?_
      refine s_iloadN (pc' := 62) X78.here hx (hb hby own_d1_61) rfl rfl ?_
      refine s_bipush (pc' := 64) X78.here hx (v := (8 : Int32)) (hb hby own_d1_62) rfl rfl ?_
      refine s_iushr (pc' := 65) X78.here hx (hb hby own_d1_64) rfl ?_
      refine s_sipush (pc' := 68) X78.here hx (v := (255 : Int32)) (hb hby own_d1_65) rfl rfl ?_
      refine s_iand (pc' := 69) X78.here hx (hb hby own_d1_68) rfl ?_
      refine s_i2c (pc' := 70) X78.here hx (hb hby own_d1_69) rfl ?_
      refine s_putC (pc' := 71) X78 hx hZ e78 V79 ⟨by decide, by decide⟩ 1 rfl (Nat.le_of_ble_eq_true rfl) (hb hby own_d1_70) rfl fun T86 hp86 X86 e86 W86 Vw86 => ?_
      have V87 : Arv Z hp86 ca ka70 .char (2 : Int32) [(.int (nar .char ((x &&& (255 : Int32)).toUInt32.toUInt16.toUInt32.toInt32))), (.int (nar .char ((((x.toUInt32 >>> ((8 : Int32) &&& 31).toUInt32).toInt32) &&& (255 : Int32)).toUInt32.toUInt16.toUInt32.toInt32)))] (.int (0 : Int32)) := Vw86
      have N86 := Fr.snoc X86 N78 g_ca
      have sf88 := Safe.wr W86 sf80 HC82 sf80
      have HR89 := CHr.trans HR81 (CHr.wr W86 sf80 HC82)
      have HC90 := CHv.wr W86 sf80 HC82
      have O91 := O83.wr W86 g_ca
      replace hk := Nat.le_trans hk (Keep.of_wr W86).1
      have Z92 : n0 ≤ hp86.size := Nat.le_trans Z84 (Keep.of_wr W86).1
      have K93 : Keep h0 hp86 [] := K85.wr W86 (Or.inr sz_ca)
      refine s_newO (pc' := 74) X86 hx hZ hown (hw _ (List.mem_of_getElem? (i := 7) rfl)) (hw _ (List.mem_of_getElem? (i := 8) rfl)) (hw _ (List.mem_of_getElem? (i := 9) rfl)) e86 (hb hby own_d1_71) (by decide) (by decide) rfl fun T94 hp94 X94 e94 E94 a gq94 A94 D94 => ?_
      have g_a : n0 ≤ a := Nat.le_trans Z92 (Nat.le_of_eq gq94.symm)
      have sz_a : h0.size ≤ a := Nat.le_trans K93.1 (Nat.le_of_eq gq94.symm)
      have ne95 : ca ≠ a := Nat.ne_of_lt (Nat.lt_of_lt_of_le V87.lt (Nat.le_of_eq gq94.symm))
      have sf96 := Safe.ext E94 HC90 (Safe.new (Nat.le_of_eq gq94.symm))
      have sf97 := Safe.ext E94 HC90 sf88
      have HR98 := CHr.trans HR89 (CHr.ext E94 HC90)
      have HC99 := CHv.ext E94 HC90
      have O100 := O91.ext E94
      have f101 := V87.ext E94
      replace hk := Nat.le_trans hk E94.1
      have Z102 : n0 ≤ hp94.size := Nat.le_trans Z92 E94.1
      have K103 : Keep h0 hp94 [] := K93.ext E94
      have F104 : Fld Z hp94 a "java/lang/String" "value" "[B" .null := D94 (Or.inr (hw _ (List.mem_of_getElem? (i := 23) rfl))) (ty := (.array .byte)) (by decide)
      have F105 : Fld Z hp94 a "java/lang/String" "coder" "B" (.int (0 : Int32)) := D94 (Or.inr (hw _ (List.mem_of_getElem? (i := 24) rfl))) (ty := .byte) (by decide)
      refine s_dup (pc' := 75) X94.here hx (hb hby own_d1_74) rfl rfl ?_
      refine s_aloadN (pc' := 76) X94.here hx (hb hby own_d1_75) rfl rfl rfl ?_
      refine s_callI (pc' := 79) (W := 1) X94 hx hZ  rfl hown (hw _ (List.mem_of_getElem? (i := 11) rfl)) (hw _ (List.mem_of_getElem? (i := 12) rfl)) (hw _ (List.mem_of_getElem? (i := 9) rfl)) (hw _ (List.mem_of_getElem? (i := 13) rfl)) (by decide) e94 (own_si1_2 l Z a0 hw [] a ca ka70 cs _ _ hp94 n0 Z102 O100 S_cs hcs F104 F105 A94 g_a f101 (own_le x) (own_le (own_hi x))) a (by rw [hml]; rfl) [(.ref ca)] [(.ref a)] rfl (lenOf own_pd5 rfl) rfl (Nat.le_of_eq rfl) (by decide) (by decide) (by decide) (by decide) rfl (hb hby own_d1_76) fun T106 v106 Lc106 X106 hQ106 => ?_
      obtain ⟨b, kb, rfl, Nq106, Kq106, szb, Ea, Fc, Fv, Vb⟩ := hQ106
      have hs107 := ((sfS sf96 sf0) : ∀ y_ ∈ ([a] : List Addr), Safe Z consts_1 _ _ y_)
      have sf108 := Safe.keep Kq106 hs107 HC99 sf97
      have sf109 := Safe.keep Kq106 hs107 HC99 sf96
      have HR110 := CHr.trans HR98 (CHr.keep Kq106 hs107 HC99)
      have HC111 := CHv.keep Kq106 hs107 HC99
      have O112 := O100.keep Kq106 (allS g_a all0)
      have N106 := Fr.app N86 Nq106
      have f113 := A94.keep Kq106
      have Z114 : n0 ≤ T106.heap.size := Nat.le_trans Z102 Kq106.1
      replace hk := Nat.le_trans hk Kq106.1
      have K115 : Keep h0 T106.heap [] := K103.trans Kq106 (allS (Or.inr sz_a) all0)
      show Ends p.tables e below (T106.setTop (mkF m 79 #[.val (.int x), .val (.int (((x.toUInt32 >>> ((16 : Int32) &&& 31).toUInt32).toInt32) &&& (3 : Int32))), .val (.int ((x &&& (255 : Int32)).toUInt32.toUInt16.toUInt32.toInt32)), .val (.ref ca)] [(.ref a)])) _
      have hle : own_len x = (2 : Int32) := by unfold own_len; rw [if_neg (show ¬ own_t x = 0 from h0_), if_neg (show ¬ own_t x = 1 from h1_)]
      obtain ⟨fs, hr, hrun, hended, hRW⟩ := X106.leaveW hS (show _ ≤ T106.heap.size from hk) (v := some (.ref a)) (fun h => by rw [Bd.returns] at h; cases h)
      have hfin : CHr Z consts_1 s.vm s.heap T106.vm T106.heap := by rw [hh]; exact CHr.trans HR110 (CHv.at X106 hZ (own_EW hw) HC111)
      refine ⟨_, _, retOut X106 hx Bd.returns rfl (Or.inr (Or.inr (Or.inr (Or.inr ⟨rfl, rfl, rfl⟩)))) (hb hby own_d1_79) hr, hrun, hended, _, _, rfl, ?_, hfin, own_rwm hRW (by decide) (by decide)⟩
      show own_str_Q Z x cs h0 n0 _ T106.heap _
      exact ⟨a, b, kb, rfl, N106, K115, sz_a, Ea, Fc, Fv, own_txN hle rfl Vb⟩
theorem own_d6_0 : decode jdk_31_method_11_code 0 = .ok (.aload_n 0, 1) := by decide +kernel
theorem own_d6_1 : decode jdk_31_method_11_code 1 = .ok (.ifnonnull 12, 3) := by decide +kernel
theorem own_d6_13 : decode jdk_31_method_11_code 13 = .ok (.aload_n 0, 1) := by decide +kernel
theorem own_d6_14 : decode jdk_31_method_11_code 14 = .ok (.areturn, 1) := by decide +kernel
theorem own_pn4 : plainName "java/util/Objects" = true := by first | (simp [plainName, overriddenIn]; done) | decide +kernel
theorem own_rnn_ef (m : MethodId) (a : Addr) (a' : Addr) : entryFrame m #[(.ref a), (.ref a')] 2 = mkF m 0 #[.val (.ref a), .val (.ref a')] [] := by first | (simp [entryFrame, mkF, argsToLocals, Value.category]; done) | rfl
def own_rnn_Q (Z : State) (a : Addr) (a' : Addr) (h0 : Heap) (n0 : Nat) (v : Option Value) (h : Heap) (L : List Loc) : Prop := v = some (.ref a) ∧ Fr n0 L ∧ h = h0
set_option maxRecDepth 65536 in
set_option maxHeartbeats 40000000 in
theorem own_rnn (l : Launch) (Z : State) (a0 : Array Value) (hw : ∀ d ∈ tables_1, d.before a0 Z = true) (ws : List Jvm.Cond) (a : Addr) (a' : Addr) (h0 : Heap) (n0 : Nat) (Z0 : n0 ≤ h0.size) :
    MetFree l (⟨"java/util/Objects", "requireNonNull", "(Ljava/lang/Object;Ljava/lang/String;)Ljava/lang/Object;"⟩ : MethodName) (head1 (Jvm.Cond.code (⟨"java/util/Objects", "requireNonNull", "(Ljava/lang/Object;Ljava/lang/String;)Ljava/lang/Object;"⟩ : MethodName) jdk_31_method_11_code 2 (some (.object "java/lang/Object")) :: ws) ({ frames := 0, cells := 0, slots := 0, locals := 0 } : Room)) (fun as_ U => as_ = #[(.ref a), (.ref a')] ∧ Z.Warmed39 U.vm ∧ U.heap = h0) (fun _ _ _ _ _ => True) (fun _ U_ o_ V_ => ∃ v_ L_, o_ = .returned v_ ∧ own_rnn_Q Z a a' h0 n0 v_ V_.heap L_ ∧ FrameEnd U_ o_ V_ L_ ({ frames := 0, cells := 0, slots := 0, locals := 0 } : Room).cells ({ frames := 0, cells := 0, slots := 0, locals := 0 } : Room).slots) := by
  refine MetFree.of_bodySF (plainFor_of_name own_pn4) hisR ?_
  intro p e s m args below meth c s₁ Bd hml0 hP hK
  obtain ⟨rfl, hZ, hh⟩ := hP
  have hx := Bd.exec
  have hby := Bd.bytes
  have hml : c.maxLocals = 2 := hml0
  have hown : s.vm.findClass "java/util/Objects" = some m.cls := findClass_of_methodNamed Bd.named
  have hnm := (name_of_methodNamed Bd.named Bd.method).1
  have X0 : Stand p l e ({ frames := 0, cells := 0, slots := 0, locals := 0 } : Room) s m #[(.ref a), (.ref a')] below meth c s₁ [] 0 0 := Stand.of_body Bd
  have e0 : s₁.heap = h0 := by rw [← hh, Bd.state]; rfl
  have N0 := Fr.nil n0
  refine own_begin (own_rnn_ef m a a') ?_
  show Ends p.tables e below (s₁.setTop (mkF m 0 #[.val (.ref a), .val (.ref a')] [])) _
  refine s_aloadN (pc' := 1) X0.here hx (hb hby own_d6_0) rfl rfl rfl ?_
  refine s_ifnonnullYes (pc' := 13) X0.here hx (hb hby own_d6_1) (by decide) (by decide) ?_
  refine s_aloadN (pc' := 14) X0.here hx (hb hby own_d6_13) rfl rfl rfl ?_
  obtain ⟨fs, hr, hrun, hended, hW, hsame⟩ := X0.leave (v := some (.ref a)) (fun h => by rw [Bd.returns] at h; cases h)
  refine ⟨_, _, retOut X0 hx Bd.returns rfl (Or.inr (Or.inr (Or.inr (Or.inr ⟨rfl, rfl, rfl⟩)))) (hb hby own_d6_14) hr, hrun, hended, _, _, rfl, ?_, ⟨_, rfl⟩, hW, hsame.mono (by decide) (by decide)⟩
  show own_rnn_Q Z a a' h0 n0 _ s₁.heap _
  rw [e0]
  exact ⟨rfl, N0, rfl⟩
theorem own_d5_0 : decode prog_59_method_1_code 0 = .ok (.aload_n 0, 1) := by decide +kernel
theorem own_d5_1 : decode prog_59_method_1_code 1 = .ok (.invokespecial 1, 3) := by decide +kernel
theorem own_d5_4 : decode prog_59_method_1_code 4 = .ok (.aload_n 0, 1) := by decide +kernel
theorem own_d5_5 : decode prog_59_method_1_code 5 = .ok (.aload_n 1, 1) := by decide +kernel
theorem own_d5_6 : decode prog_59_method_1_code 6 = .ok (.ldc 7, 2) := by decide +kernel
theorem own_d5_8 : decode prog_59_method_1_code 8 = .ok (.invokestatic 9, 3) := by decide +kernel
theorem own_pd6 : parseMethodDescriptor "(Ljava/lang/Object;Ljava/lang/String;)Ljava/lang/Object;" = some ⟨[(.object "java/lang/Object"), (.object "java/lang/String")], some (.object "java/lang/Object")⟩ := by decide +kernel
theorem own_d5_11 : decode prog_59_method_1_code 11 = .ok (.checkcast 15, 3) := by decide +kernel
theorem own_d5_14 : decode prog_59_method_1_code 14 = .ok (.putfield 17, 3) := by decide +kernel
theorem own_d5_17 : decode prog_59_method_1_code 17 = .ok (.aload_n 0, 1) := by decide +kernel
theorem own_d5_18 : decode prog_59_method_1_code 18 = .ok (.aload_n 2, 1) := by decide +kernel
theorem own_d5_19 : decode prog_59_method_1_code 19 = .ok (.ldc 22, 2) := by decide +kernel
theorem own_d5_21 : decode prog_59_method_1_code 21 = .ok (.invokestatic 9, 3) := by decide +kernel
theorem own_d5_24 : decode prog_59_method_1_code 24 = .ok (.checkcast 15, 3) := by decide +kernel
theorem own_d5_27 : decode prog_59_method_1_code 27 = .ok (.putfield 24, 3) := by decide +kernel
theorem own_d5_30 : decode prog_59_method_1_code 30 = .ok (.aload_n 0, 1) := by decide +kernel
theorem own_d5_31 : decode prog_59_method_1_code 31 = .ok (.aload_n 3, 1) := by decide +kernel
theorem own_d5_32 : decode prog_59_method_1_code 32 = .ok (.ldc 26, 2) := by decide +kernel
theorem own_d5_34 : decode prog_59_method_1_code 34 = .ok (.invokestatic 9, 3) := by decide +kernel
theorem own_d5_37 : decode prog_59_method_1_code 37 = .ok (.checkcast 15, 3) := by decide +kernel
theorem own_d5_40 : decode prog_59_method_1_code 40 = .ok (.putfield 28, 3) := by decide +kernel
theorem own_d5_43 : decode prog_59_method_1_code 43 = .ok (.aload_n 0, 1) := by decide +kernel
theorem own_d5_44 : decode prog_59_method_1_code 44 = .ok (.aload 4, 2) := by decide +kernel
theorem own_d5_46 : decode prog_59_method_1_code 46 = .ok (.ldc 30, 2) := by decide +kernel
theorem own_d5_48 : decode prog_59_method_1_code 48 = .ok (.invokestatic 9, 3) := by decide +kernel
theorem own_d5_51 : decode prog_59_method_1_code 51 = .ok (.checkcast 15, 3) := by decide +kernel
theorem own_d5_54 : decode prog_59_method_1_code 54 = .ok (.putfield 32, 3) := by decide +kernel
theorem own_d5_57 : decode prog_59_method_1_code 57 = .ok (.return_, 1) := by decide +kernel
theorem own_pn5 : plainName "com/example/prudent_till/prudenttill/model/RequestKey" = true := by first | (simp [plainName, overriddenIn]; done) | decide +kernel
theorem own_ai_ef (m : MethodId) (a : Addr) (s1 : Addr) (s2 : Addr) (s3 : Addr) (s4 : Addr) : entryFrame m #[(.ref a), (.ref s1), (.ref s2), (.ref s3), (.ref s4)] 5 = mkF m 0 #[.val (.ref a), .val (.ref s1), .val (.ref s2), .val (.ref s3), .val (.ref s4)] [] := by first | (simp [entryFrame, mkF, argsToLocals, Value.category]; done) | rfl
def own_ai_Q (Z : State) (a : Addr) (s1 : Addr) (s2 : Addr) (s3 : Addr) (s4 : Addr) (h0 : Heap) (n0 : Nat) (v : Option Value) (h : Heap) (L : List Loc) : Prop := v = none ∧ Fr n0 L ∧ Keep h0 h [a] ∧ Exa Z h a "com/example/prudent_till/prudenttill/model/RequestKey" ∧ Fld Z h a "com/example/prudent_till/prudenttill/model/RequestKey" "merchantId" "Ljava/lang/String;" (.ref s1) ∧ Fld Z h a "com/example/prudent_till/prudenttill/model/RequestKey" "requestId" "Ljava/lang/String;" (.ref s2) ∧ Fld Z h a "com/example/prudent_till/prudenttill/model/RequestKey" "method" "Ljava/lang/String;" (.ref s3) ∧ Fld Z h a "com/example/prudent_till/prudenttill/model/RequestKey" "path" "Ljava/lang/String;" (.ref s4)
set_option maxRecDepth 65536 in
set_option maxHeartbeats 40000000 in
theorem own_ai (l : Launch) (Z : State) (a0 : Array Value) (hw : ∀ d ∈ tables_1, d.before a0 Z = true) (ws : List Jvm.Cond) (a : Addr) (s1 : Addr) (s2 : Addr) (s3 : Addr) (s4 : Addr) (h0 : Heap) (n0 : Nat) (Z0 : n0 ≤ h0.size) (F_merchantId : Fld Z h0 a "com/example/prudent_till/prudenttill/model/RequestKey" "merchantId" "Ljava/lang/String;" .null) (F_requestId : Fld Z h0 a "com/example/prudent_till/prudenttill/model/RequestKey" "requestId" "Ljava/lang/String;" .null) (F_method : Fld Z h0 a "com/example/prudent_till/prudenttill/model/RequestKey" "method" "Ljava/lang/String;" .null) (F_path : Fld Z h0 a "com/example/prudent_till/prudenttill/model/RequestKey" "path" "Ljava/lang/String;" .null) (E_a : Exa Z h0 a "com/example/prudent_till/prudenttill/model/RequestKey") (g_a : n0 ≤ a) (E_s1 : Exa Z h0 s1 "java/lang/String") (E_s2 : Exa Z h0 s2 "java/lang/String") (E_s3 : Exa Z h0 s3 "java/lang/String") (E_s4 : Exa Z h0 s4 "java/lang/String") :
    MetFree l (⟨"com/example/prudent_till/prudenttill/model/RequestKey", "<init>", "(Ljava/lang/String;Ljava/lang/String;Ljava/lang/String;Ljava/lang/String;)V"⟩ : MethodName) (head1 (Jvm.Cond.code (⟨"com/example/prudent_till/prudenttill/model/RequestKey", "<init>", "(Ljava/lang/String;Ljava/lang/String;Ljava/lang/String;Ljava/lang/String;)V"⟩ : MethodName) prog_59_method_1_code 5 none :: ws) ({ frames := 1, cells := 8, slots := 132, locals := 14 } : Room)) (fun as_ U => as_ = #[(.ref a), (.ref s1), (.ref s2), (.ref s3), (.ref s4)] ∧ Z.Warmed39 U.vm ∧ U.heap = h0 ∧ CHv Z consts_1 U.vm h0 ∧ ∀ x_ ∈ ([] : List Addr), Safe Z consts_1 U.vm h0 x_) (fun _ _ _ _ _ => True) (fun _ U_ o_ V_ => ∃ v_ L_, o_ = .returned v_ ∧ own_ai_Q Z a s1 s2 s3 s4 h0 n0 v_ V_.heap L_ ∧ CHr Z consts_1 U_.vm U_.heap V_.vm V_.heap ∧ ReturnedEndW U_ o_ V_ L_ ({ frames := 1, cells := 8, slots := 132, locals := 14 } : Room).cells ({ frames := 1, cells := 8, slots := 132, locals := 14 } : Room).slots) := by
  refine MetFree.of_bodySF (plainFor_of_name own_pn5) hisR ?_
  intro p e s m args below meth c s₁ Bd hml0 hP hK
  obtain ⟨rfl, hZ, hh, HC0, hsf0⟩ := hP
  have hx := Bd.exec
  have hby := Bd.bytes
  have hml : c.maxLocals = 5 := hml0
  have hown : s.vm.findClass "com/example/prudent_till/prudenttill/model/RequestKey" = some m.cls := findClass_of_methodNamed Bd.named
  have hnm := (name_of_methodNamed Bd.named Bd.method).1
  have X0 : Stand p l e ({ frames := 1, cells := 8, slots := 132, locals := 14 } : Room) s m #[(.ref a), (.ref s1), (.ref s2), (.ref s3), (.ref s4)] below meth c s₁ [] 0 0 := Stand.of_body Bd
  have e0 : s₁.heap = h0 := by rw [← hh, Bd.state]; rfl
  have N0 := Fr.nil n0
  refine own_begin (own_ai_ef m a s1 s2 s3 s4) ?_
  show Ends p.tables e below (s₁.setTop (mkF m 0 #[.val (.ref a), .val (.ref s1), .val (.ref s2), .val (.ref s3), .val (.ref s4)] [])) _
  have Kr0 : Keep h0 h0 [a] := Keep.refl h0 _
  have HR0 : CHr Z consts_1 s.vm h0 s.vm h0 := CHr.refl HC0
  have X0w : Stand p l e ({ frames := 1, cells := 8, slots := 132, locals := 14 } : Room) (s.setVm s.vm) m #[(.ref a), (.ref s1), (.ref s2), (.ref s3), (.ref s4)] below meth c s₁ [] 0 0 := X0
  have hS : s.Since s.vm 0 := (State.WarmedH.refl s).since 0
  have hk : 0 ≤ h0.size := Nat.zero_le _
  refine s_aloadN (pc' := 1) X0w.here hx (hb hby own_d5_0) rfl rfl rfl ?_
  refine s_initO (pc' := 4) (W := 0) X0w hx hZ hown (hw _ (List.mem_of_getElem? (i := 32) rfl)) (hw _ (List.mem_of_getElem? (i := 19) rfl)) (hw _ (List.mem_of_getElem? (i := 20) rfl)) e0 (by rw [hml]; rfl) (hb hby own_d5_1) (by decide) (Nat.le_of_eq rfl) (by decide) rfl fun T1 X1 e1 => ?_
  refine s_aloadN (pc' := 5) X1.here hx (hb hby own_d5_4) rfl rfl rfl ?_
  refine s_aloadN (pc' := 6) X1.here hx (hb hby own_d5_5) rfl rfl rfl ?_
  refine s_ldcOH (pc' := 8) (n := 40) X1 hx hZ hS hk (own_EW hw) HC0 hown (hw _ (List.mem_of_getElem? (i := 33) rfl)) (own_wS hw) e1 (hb hby own_d5_6) (by decide) (by decide) (by decide) (by decide) rfl fun q0 T2 hp2 kx2 X2 e2 E2 hS hk' hZ hown hr2 => ?_
  have HR3 := CHr.trans HR0 (hr2)
  have HC4 := hr2.1
  have f5 := E_a.ext E2
  have f6 := F_merchantId.ext E2
  have f7 := E_s1.ext E2
  have f8 := F_requestId.ext E2
  have f9 := E_s2.ext E2
  have f10 := F_method.ext E2
  have f11 := E_s3.ext E2
  have f12 := F_path.ext E2
  have f13 := E_s4.ext E2
  have Z14 : n0 ≤ hp2.size := Nat.le_trans Z0 E2.1
  have K15 : Keep h0 hp2 [a] := Kr0.ext E2
  replace hk := hk'
  refine s_callS (pc' := 11) (W := 1) X2 hx hZ  hown (hw _ (List.mem_of_getElem? (i := 34) rfl)) (hw _ (List.mem_of_getElem? (i := 35) rfl)) (hw _ (List.mem_of_getElem? (i := 36) rfl)) (hw _ (List.mem_of_getElem? (i := 37) rfl)) (by decide) e2 (own_rnn l Z a0 hw [] s1 q0 hp2 n0 Z14 ) (by rw [hml]; rfl) [(.ref s1), (.ref q0)] [(.ref a)] rfl (lenOf own_pd6 rfl) rfl (Nat.le_of_eq rfl) (by decide) (by decide) (by decide) (by decide) rfl (hb hby own_d5_8) fun T16 v16 Lc16 X16 hQ16 => ?_
  obtain ⟨rfl, Nq16, eh16⟩ := hQ16
  have N16 := Fr.app N0 Nq16
  show Ends p.tables e below (T16.setTop (mkF m 11 #[.val (.ref a), .val (.ref s1), .val (.ref s2), .val (.ref s3), .val (.ref s4)] [(.ref s1), (.ref a)])) _
  refine s_castY (pc' := 14) X16 hx hZ hown (hw _ (List.mem_of_getElem? (i := 38) rfl)) eh16 (Ins.self f7) (hb hby own_d5_11) rfl fun T17 X17 e17 => ?_
  refine s_putF (pc' := 17) (ty := (.object "java/lang/String")) X17 hx hZ hown (host := "") (Or.inl (hw _ (List.mem_of_getElem? (i := 39) rfl))) Via.refl e17 f6 f5 (Or.inr ⟨(hw _ (List.mem_of_getElem? (i := 40) rfl)), rfl, hnm⟩) (hw _ (List.mem_of_getElem? (i := 1) rfl)) (by decide) rfl rfl (hb hby own_d5_14) rfl fun T18 hp18 X18 e18 W18 => ?_
  have N18 := Fr.snoc X18 N16 g_a
  have HR19 := CHr.trans HR3 (CHr.wr W18 (Safe.exa hZ.alike f5 (by decide) (by decide)) HC4)
  have HC20 := CHv.wr W18 (Safe.exa hZ.alike f5 (by decide) (by decide)) HC4
  have f21 := f5.wr W18
  have f22 := f6.same W18
  have f23 := f7.wr W18
  have f24 := f8.other W18 (Or.inr (slot_ne (Or.inr (hw _ (List.mem_of_getElem? (i := 43) rfl))) (Or.inr (hw _ (List.mem_of_getElem? (i := 40) rfl))) (by decide) (t := (.object "java/lang/String")) (t' := (.object "java/lang/String")) (by decide) (by decide)))
  have f25 := f9.wr W18
  have f26 := f10.other W18 (Or.inr (slot_ne (Or.inr (hw _ (List.mem_of_getElem? (i := 46) rfl))) (Or.inr (hw _ (List.mem_of_getElem? (i := 40) rfl))) (by decide) (t := (.object "java/lang/String")) (t' := (.object "java/lang/String")) (by decide) (by decide)))
  have f27 := f11.wr W18
  have f28 := f12.other W18 (Or.inr (slot_ne (Or.inr (hw _ (List.mem_of_getElem? (i := 49) rfl))) (Or.inr (hw _ (List.mem_of_getElem? (i := 40) rfl))) (by decide) (t := (.object "java/lang/String")) (t' := (.object "java/lang/String")) (by decide) (by decide)))
  have f29 := f13.wr W18
  replace hk := Nat.le_trans hk (Keep.of_wr W18).1
  have Z30 : n0 ≤ hp18.size := Nat.le_trans Z14 (Keep.of_wr W18).1
  have K31 : Keep h0 hp18 [a] := K15.wr W18 (Or.inl (List.mem_of_getElem? (i := 0) rfl))
  refine s_aloadN (pc' := 18) X18.here hx (hb hby own_d5_17) rfl rfl rfl ?_
  refine s_aloadN (pc' := 19) X18.here hx (hb hby own_d5_18) rfl rfl rfl ?_
  refine s_ldcOH (pc' := 21) (n := 36) X18 hx hZ hS hk (own_EW hw) HC20 hown (hw _ (List.mem_of_getElem? (i := 41) rfl)) (own_wS hw) e18 (hb hby own_d5_19) (by decide) (by decide) (by decide) (by decide) rfl fun q1 T32 hp32 kx32 X32 e32 E32 hS hk' hZ hown hr32 => ?_
  have HR33 := CHr.trans HR19 (hr32)
  have HC34 := hr32.1
  have f35 := f21.ext E32
  have f36 := f22.ext E32
  have f37 := f23.ext E32
  have f38 := f24.ext E32
  have f39 := f25.ext E32
  have f40 := f26.ext E32
  have f41 := f27.ext E32
  have f42 := f28.ext E32
  have f43 := f29.ext E32
  have Z44 : n0 ≤ hp32.size := Nat.le_trans Z30 E32.1
  have K45 : Keep h0 hp32 [a] := K31.ext E32
  replace hk := hk'
  refine s_callS (pc' := 24) (W := 1) X32 hx hZ  hown (hw _ (List.mem_of_getElem? (i := 34) rfl)) (hw _ (List.mem_of_getElem? (i := 35) rfl)) (hw _ (List.mem_of_getElem? (i := 36) rfl)) (hw _ (List.mem_of_getElem? (i := 37) rfl)) (by decide) e32 (own_rnn l Z a0 hw [] s2 q1 hp32 n0 Z44 ) (by rw [hml]; rfl) [(.ref s2), (.ref q1)] [(.ref a)] rfl (lenOf own_pd6 rfl) rfl (Nat.le_of_eq rfl) (by decide) (by decide) (by decide) (by decide) rfl (hb hby own_d5_21) fun T46 v46 Lc46 X46 hQ46 => ?_
  obtain ⟨rfl, Nq46, eh46⟩ := hQ46
  have N46 := Fr.app N18 Nq46
  show Ends p.tables e below (T46.setTop (mkF m 24 #[.val (.ref a), .val (.ref s1), .val (.ref s2), .val (.ref s3), .val (.ref s4)] [(.ref s2), (.ref a)])) _
  refine s_castY (pc' := 27) X46 hx hZ hown (hw _ (List.mem_of_getElem? (i := 38) rfl)) eh46 (Ins.self f39) (hb hby own_d5_24) rfl fun T47 X47 e47 => ?_
  refine s_putF (pc' := 30) (ty := (.object "java/lang/String")) X47 hx hZ hown (host := "") (Or.inl (hw _ (List.mem_of_getElem? (i := 42) rfl))) Via.refl e47 f38 f35 (Or.inr ⟨(hw _ (List.mem_of_getElem? (i := 43) rfl)), rfl, hnm⟩) (hw _ (List.mem_of_getElem? (i := 1) rfl)) (by decide) rfl rfl (hb hby own_d5_27) rfl fun T48 hp48 X48 e48 W48 => ?_
  have N48 := Fr.snoc X48 N46 g_a
  have HR49 := CHr.trans HR33 (CHr.wr W48 (Safe.exa hZ.alike f35 (by decide) (by decide)) HC34)
  have HC50 := CHv.wr W48 (Safe.exa hZ.alike f35 (by decide) (by decide)) HC34
  have f51 := f35.wr W48
  have f52 := f36.other W48 (Or.inr (slot_ne (Or.inr (hw _ (List.mem_of_getElem? (i := 40) rfl))) (Or.inr (hw _ (List.mem_of_getElem? (i := 43) rfl))) (by decide) (t := (.object "java/lang/String")) (t' := (.object "java/lang/String")) (by decide) (by decide)))
  have f53 := f37.wr W48
  have f54 := f38.same W48
  have f55 := f39.wr W48
  have f56 := f40.other W48 (Or.inr (slot_ne (Or.inr (hw _ (List.mem_of_getElem? (i := 46) rfl))) (Or.inr (hw _ (List.mem_of_getElem? (i := 43) rfl))) (by decide) (t := (.object "java/lang/String")) (t' := (.object "java/lang/String")) (by decide) (by decide)))
  have f57 := f41.wr W48
  have f58 := f42.other W48 (Or.inr (slot_ne (Or.inr (hw _ (List.mem_of_getElem? (i := 49) rfl))) (Or.inr (hw _ (List.mem_of_getElem? (i := 43) rfl))) (by decide) (t := (.object "java/lang/String")) (t' := (.object "java/lang/String")) (by decide) (by decide)))
  have f59 := f43.wr W48
  replace hk := Nat.le_trans hk (Keep.of_wr W48).1
  have Z60 : n0 ≤ hp48.size := Nat.le_trans Z44 (Keep.of_wr W48).1
  have K61 : Keep h0 hp48 [a] := K45.wr W48 (Or.inl (List.mem_of_getElem? (i := 0) rfl))
  refine s_aloadN (pc' := 31) X48.here hx (hb hby own_d5_30) rfl rfl rfl ?_
  refine s_aloadN (pc' := 32) X48.here hx (hb hby own_d5_31) rfl rfl rfl ?_
  refine s_ldcOH (pc' := 34) (n := 24) X48 hx hZ hS hk (own_EW hw) HC50 hown (hw _ (List.mem_of_getElem? (i := 44) rfl)) (own_wS hw) e48 (hb hby own_d5_32) (by decide) (by decide) (by decide) (by decide) rfl fun q2 T62 hp62 kx62 X62 e62 E62 hS hk' hZ hown hr62 => ?_
  have HR63 := CHr.trans HR49 (hr62)
  have HC64 := hr62.1
  have f65 := f51.ext E62
  have f66 := f52.ext E62
  have f67 := f53.ext E62
  have f68 := f54.ext E62
  have f69 := f55.ext E62
  have f70 := f56.ext E62
  have f71 := f57.ext E62
  have f72 := f58.ext E62
  have f73 := f59.ext E62
  have Z74 : n0 ≤ hp62.size := Nat.le_trans Z60 E62.1
  have K75 : Keep h0 hp62 [a] := K61.ext E62
  replace hk := hk'
  refine s_callS (pc' := 37) (W := 1) X62 hx hZ  hown (hw _ (List.mem_of_getElem? (i := 34) rfl)) (hw _ (List.mem_of_getElem? (i := 35) rfl)) (hw _ (List.mem_of_getElem? (i := 36) rfl)) (hw _ (List.mem_of_getElem? (i := 37) rfl)) (by decide) e62 (own_rnn l Z a0 hw [] s3 q2 hp62 n0 Z74 ) (by rw [hml]; rfl) [(.ref s3), (.ref q2)] [(.ref a)] rfl (lenOf own_pd6 rfl) rfl (Nat.le_of_eq rfl) (by decide) (by decide) (by decide) (by decide) rfl (hb hby own_d5_34) fun T76 v76 Lc76 X76 hQ76 => ?_
  obtain ⟨rfl, Nq76, eh76⟩ := hQ76
  have N76 := Fr.app N48 Nq76
  show Ends p.tables e below (T76.setTop (mkF m 37 #[.val (.ref a), .val (.ref s1), .val (.ref s2), .val (.ref s3), .val (.ref s4)] [(.ref s3), (.ref a)])) _
  refine s_castY (pc' := 40) X76 hx hZ hown (hw _ (List.mem_of_getElem? (i := 38) rfl)) eh76 (Ins.self f71) (hb hby own_d5_37) rfl fun T77 X77 e77 => ?_
  refine s_putF (pc' := 43) (ty := (.object "java/lang/String")) X77 hx hZ hown (host := "") (Or.inl (hw _ (List.mem_of_getElem? (i := 45) rfl))) Via.refl e77 f70 f65 (Or.inr ⟨(hw _ (List.mem_of_getElem? (i := 46) rfl)), rfl, hnm⟩) (hw _ (List.mem_of_getElem? (i := 1) rfl)) (by decide) rfl rfl (hb hby own_d5_40) rfl fun T78 hp78 X78 e78 W78 => ?_
  have N78 := Fr.snoc X78 N76 g_a
  have HR79 := CHr.trans HR63 (CHr.wr W78 (Safe.exa hZ.alike f65 (by decide) (by decide)) HC64)
  have HC80 := CHv.wr W78 (Safe.exa hZ.alike f65 (by decide) (by decide)) HC64
  have f81 := f65.wr W78
  have f82 := f66.other W78 (Or.inr (slot_ne (Or.inr (hw _ (List.mem_of_getElem? (i := 40) rfl))) (Or.inr (hw _ (List.mem_of_getElem? (i := 46) rfl))) (by decide) (t := (.object "java/lang/String")) (t' := (.object "java/lang/String")) (by decide) (by decide)))
  have f83 := f67.wr W78
  have f84 := f68.other W78 (Or.inr (slot_ne (Or.inr (hw _ (List.mem_of_getElem? (i := 43) rfl))) (Or.inr (hw _ (List.mem_of_getElem? (i := 46) rfl))) (by decide) (t := (.object "java/lang/String")) (t' := (.object "java/lang/String")) (by decide) (by decide)))
  have f85 := f69.wr W78
  have f86 := f70.same W78
  have f87 := f71.wr W78
  have f88 := f72.other W78 (Or.inr (slot_ne (Or.inr (hw _ (List.mem_of_getElem? (i := 49) rfl))) (Or.inr (hw _ (List.mem_of_getElem? (i := 46) rfl))) (by decide) (t := (.object "java/lang/String")) (t' := (.object "java/lang/String")) (by decide) (by decide)))
  have f89 := f73.wr W78
  replace hk := Nat.le_trans hk (Keep.of_wr W78).1
  have Z90 : n0 ≤ hp78.size := Nat.le_trans Z74 (Keep.of_wr W78).1
  have K91 : Keep h0 hp78 [a] := K75.wr W78 (Or.inl (List.mem_of_getElem? (i := 0) rfl))
  refine s_aloadN (pc' := 44) X78.here hx (hb hby own_d5_43) rfl rfl rfl ?_
  refine s_aload (pc' := 46) X78.here hx (hb hby own_d5_44) rfl rfl rfl ?_
  refine s_ldcOH (pc' := 48) (n := 16) X78 hx hZ hS hk (own_EW hw) HC80 hown (hw _ (List.mem_of_getElem? (i := 47) rfl)) (own_wS hw) e78 (hb hby own_d5_46) (by decide) (by decide) (by decide) (by decide) rfl fun q3 T92 hp92 kx92 X92 e92 E92 hS hk' hZ hown hr92 => ?_
  have HR93 := CHr.trans HR79 (hr92)
  have HC94 := hr92.1
  have f95 := f81.ext E92
  have f96 := f82.ext E92
  have f97 := f83.ext E92
  have f98 := f84.ext E92
  have f99 := f85.ext E92
  have f100 := f86.ext E92
  have f101 := f87.ext E92
  have f102 := f88.ext E92
  have f103 := f89.ext E92
  have Z104 : n0 ≤ hp92.size := Nat.le_trans Z90 E92.1
  have K105 : Keep h0 hp92 [a] := K91.ext E92
  replace hk := hk'
  refine s_callS (pc' := 51) (W := 1) X92 hx hZ  hown (hw _ (List.mem_of_getElem? (i := 34) rfl)) (hw _ (List.mem_of_getElem? (i := 35) rfl)) (hw _ (List.mem_of_getElem? (i := 36) rfl)) (hw _ (List.mem_of_getElem? (i := 37) rfl)) (by decide) e92 (own_rnn l Z a0 hw [] s4 q3 hp92 n0 Z104 ) (by rw [hml]; rfl) [(.ref s4), (.ref q3)] [(.ref a)] rfl (lenOf own_pd6 rfl) rfl (Nat.le_of_eq rfl) (by decide) (by decide) (by decide) (by decide) rfl (hb hby own_d5_48) fun T106 v106 Lc106 X106 hQ106 => ?_
  obtain ⟨rfl, Nq106, eh106⟩ := hQ106
  have N106 := Fr.app N78 Nq106
  show Ends p.tables e below (T106.setTop (mkF m 51 #[.val (.ref a), .val (.ref s1), .val (.ref s2), .val (.ref s3), .val (.ref s4)] [(.ref s4), (.ref a)])) _
  refine s_castY (pc' := 54) X106 hx hZ hown (hw _ (List.mem_of_getElem? (i := 38) rfl)) eh106 (Ins.self f103) (hb hby own_d5_51) rfl fun T107 X107 e107 => ?_
  refine s_putF (pc' := 57) (ty := (.object "java/lang/String")) X107 hx hZ hown (host := "") (Or.inl (hw _ (List.mem_of_getElem? (i := 48) rfl))) Via.refl e107 f102 f95 (Or.inr ⟨(hw _ (List.mem_of_getElem? (i := 49) rfl)), rfl, hnm⟩) (hw _ (List.mem_of_getElem? (i := 1) rfl)) (by decide) rfl rfl (hb hby own_d5_54) rfl fun T108 hp108 X108 e108 W108 => ?_
  have N108 := Fr.snoc X108 N106 g_a
  have HR109 := CHr.trans HR93 (CHr.wr W108 (Safe.exa hZ.alike f95 (by decide) (by decide)) HC94)
  have HC110 := CHv.wr W108 (Safe.exa hZ.alike f95 (by decide) (by decide)) HC94
  have f111 := f95.wr W108
  have f112 := f96.other W108 (Or.inr (slot_ne (Or.inr (hw _ (List.mem_of_getElem? (i := 40) rfl))) (Or.inr (hw _ (List.mem_of_getElem? (i := 49) rfl))) (by decide) (t := (.object "java/lang/String")) (t' := (.object "java/lang/String")) (by decide) (by decide)))
  have f113 := f97.wr W108
  have f114 := f98.other W108 (Or.inr (slot_ne (Or.inr (hw _ (List.mem_of_getElem? (i := 43) rfl))) (Or.inr (hw _ (List.mem_of_getElem? (i := 49) rfl))) (by decide) (t := (.object "java/lang/String")) (t' := (.object "java/lang/String")) (by decide) (by decide)))
  have f115 := f99.wr W108
  have f116 := f100.other W108 (Or.inr (slot_ne (Or.inr (hw _ (List.mem_of_getElem? (i := 46) rfl))) (Or.inr (hw _ (List.mem_of_getElem? (i := 49) rfl))) (by decide) (t := (.object "java/lang/String")) (t' := (.object "java/lang/String")) (by decide) (by decide)))
  have f117 := f101.wr W108
  have f118 := f102.same W108
  have f119 := f103.wr W108
  replace hk := Nat.le_trans hk (Keep.of_wr W108).1
  have Z120 : n0 ≤ hp108.size := Nat.le_trans Z104 (Keep.of_wr W108).1
  have K121 : Keep h0 hp108 [a] := K105.wr W108 (Or.inl (List.mem_of_getElem? (i := 0) rfl))
  obtain ⟨fs, hr, hrun, hended, hRW⟩ := X108.leaveW hS (show _ ≤ T108.heap.size from by rw [e108]; exact hk) (v := none) (fun _ => rfl)
  have hfin : CHr Z consts_1 s.vm s.heap T108.vm T108.heap := by rw [hh, e108]; exact CHr.trans HR109 (CHv.at X108 hZ (own_EW hw) HC110)
  refine ⟨_, _, X108.returnOut hx Bd.returns (hb hby own_d5_57) hr, hrun, hended, _, _, rfl, ?_, hfin, own_rwm hRW (by decide) (by decide)⟩
  show own_ai_Q Z a s1 s2 s3 s4 h0 n0 _ T108.heap _
  rw [e108]
  exact ⟨rfl, N108, K121, f111, f112, f114, f116, f118⟩
theorem own_d8_0 : decode prog_59_method_6_code 0 = .ok (.aload_n 1, 1) := by decide +kernel
theorem own_d8_1 : decode prog_59_method_6_code 1 = .ok (.instanceof 18, 3) := by decide +kernel
theorem own_d8_4 : decode prog_59_method_6_code 4 = .ok (.ifCond .eq 68, 3) := by decide +kernel
theorem own_d8_72 : decode prog_59_method_6_code 72 = .ok (.iconst 0, 1) := by decide +kernel
theorem own_d8_73 : decode prog_59_method_6_code 73 = .ok (.ireturn, 1) := by decide +kernel
theorem own_eqN_ef (m : MethodId) (a : Addr) : entryFrame m #[(.ref a), .null] 3 = mkF m 0 #[.val (.ref a), .val .null, .unset] [] := by first | (simp [entryFrame, mkF, argsToLocals, Value.category]; done) | rfl
def own_eqN_Q (Z : State) (a : Addr) (h0 : Heap) (n0 : Nat) (v : Option Value) (h : Heap) (L : List Loc) : Prop := v = some (.int 0) ∧ Fr n0 L ∧ h = h0
set_option maxRecDepth 65536 in
set_option maxHeartbeats 40000000 in
theorem own_eqN (l : Launch) (Z : State) (a0 : Array Value) (hw : ∀ d ∈ tables_1, d.before a0 Z = true) (ws : List Jvm.Cond) (a : Addr) (h0 : Heap) (n0 : Nat) (Z0 : n0 ≤ h0.size) :
    MetFree l (⟨"com/example/prudent_till/prudenttill/model/RequestKey", "equals", "(Ljava/lang/Object;)Z"⟩ : MethodName) (head1 (Jvm.Cond.code (⟨"com/example/prudent_till/prudenttill/model/RequestKey", "equals", "(Ljava/lang/Object;)Z"⟩ : MethodName) prog_59_method_6_code 3 (some .boolean) :: ws) ({ frames := 0, cells := 0, slots := 0, locals := 0 } : Room)) (fun as_ U => as_ = #[(.ref a), .null] ∧ Z.Warmed39 U.vm ∧ U.heap = h0) (fun _ _ _ _ _ => True) (fun _ U_ o_ V_ => ∃ v_ L_, o_ = .returned v_ ∧ own_eqN_Q Z a h0 n0 v_ V_.heap L_ ∧ FrameEnd U_ o_ V_ L_ ({ frames := 0, cells := 0, slots := 0, locals := 0 } : Room).cells ({ frames := 0, cells := 0, slots := 0, locals := 0 } : Room).slots) := by
  refine MetFree.of_bodySF (plainFor_of_name own_pn5) hisR ?_
  intro p e s m args below meth c s₁ Bd hml0 hP hK
  obtain ⟨rfl, hZ, hh⟩ := hP
  have hx := Bd.exec
  have hby := Bd.bytes
  have hml : c.maxLocals = 3 := hml0
  have hown : s.vm.findClass "com/example/prudent_till/prudenttill/model/RequestKey" = some m.cls := findClass_of_methodNamed Bd.named
  have hnm := (name_of_methodNamed Bd.named Bd.method).1
  have X0 : Stand p l e ({ frames := 0, cells := 0, slots := 0, locals := 0 } : Room) s m #[(.ref a), .null] below meth c s₁ [] 0 0 := Stand.of_body Bd
  have e0 : s₁.heap = h0 := by rw [← hh, Bd.state]; rfl
  have N0 := Fr.nil n0
  refine own_begin (own_eqN_ef m a) ?_
  show Ends p.tables e below (s₁.setTop (mkF m 0 #[.val (.ref a), .val .null, .unset] [])) _
  refine s_aloadN (pc' := 1) X0.here hx (hb hby own_d8_0) rfl rfl rfl ?_
  refine own_via (fun t_ k_ => Jvm.Stand.instanceofNull X0 hx (g := (mkF m 1 #[.val (.ref a), .val .null, .unset] [.null])) rfl (rest := []) rfl (hb hby own_d8_1) t_ k_) ?_
  show Ends p.tables e below (s₁.setTop (mkF m 4 #[.val (.ref a), .val .null, .unset] [(.int (0 : Int32))])) _
  have hk1 : (0 : Int32) = (0 : Int32) := rfl
  refine s_ifYes (pc' := 72) X0.here hx (hb hby own_d8_4) ((if0 _ _).trans (teq hk1).1) (by decide) (by decide) ?_
  refine s_iconst (pc' := 73) X0.here hx (v := (0 : Int32)) (hb hby own_d8_72) rfl rfl ?_
  obtain ⟨fs, hr, hrun, hended, hW, hsame⟩ := X0.leave (v := some (.int (0 : Int32))) (fun h => by rw [Bd.returns] at h; cases h)
  refine ⟨_, _, retN X0 hx (t := .boolean) Bd.returns (by simp) (hb hby own_d8_73) hr, hrun, hended, _, _, rfl, ?_, ⟨_, rfl⟩, hW, hsame.mono (by decide) (by decide)⟩
  show own_eqN_Q Z a h0 n0 _ s₁.heap _
  rw [e0]
  exact ⟨rfl, N0, rfl⟩
theorem own_eqS_ef (m : MethodId) (a : Addr) (a' : Addr) : entryFrame m #[(.ref a), (.ref a')] 3 = mkF m 0 #[.val (.ref a), .val (.ref a'), .unset] [] := by first | (simp [entryFrame, mkF, argsToLocals, Value.category]; done) | rfl
def own_eqS_Q (Z : State) (a : Addr) (a' : Addr) (h0 : Heap) (n0 : Nat) (v : Option Value) (h : Heap) (L : List Loc) : Prop := v = some (.int 0) ∧ Fr n0 L ∧ h = h0
set_option maxRecDepth 65536 in
set_option maxHeartbeats 40000000 in
theorem own_eqS (l : Launch) (Z : State) (a0 : Array Value) (hw : ∀ d ∈ tables_1, d.before a0 Z = true) (ws : List Jvm.Cond) (a : Addr) (a' : Addr) (h0 : Heap) (n0 : Nat) (Z0 : n0 ≤ h0.size) (E_s : Exa Z h0 a' "java/lang/String") :
    MetFree l (⟨"com/example/prudent_till/prudenttill/model/RequestKey", "equals", "(Ljava/lang/Object;)Z"⟩ : MethodName) (head1 (Jvm.Cond.code (⟨"com/example/prudent_till/prudenttill/model/RequestKey", "equals", "(Ljava/lang/Object;)Z"⟩ : MethodName) prog_59_method_6_code 3 (some .boolean) :: ws) ({ frames := 0, cells := 0, slots := 0, locals := 0 } : Room)) (fun as_ U => as_ = #[(.ref a), (.ref a')] ∧ Z.Warmed39 U.vm ∧ U.heap = h0) (fun _ _ _ _ _ => True) (fun _ U_ o_ V_ => ∃ v_ L_, o_ = .returned v_ ∧ own_eqS_Q Z a a' h0 n0 v_ V_.heap L_ ∧ FrameEnd U_ o_ V_ L_ ({ frames := 0, cells := 0, slots := 0, locals := 0 } : Room).cells ({ frames := 0, cells := 0, slots := 0, locals := 0 } : Room).slots) := by
  refine MetFree.of_bodySF (plainFor_of_name own_pn5) hisR ?_
  intro p e s m args below meth c s₁ Bd hml0 hP hK
  obtain ⟨rfl, hZ, hh⟩ := hP
  have hx := Bd.exec
  have hby := Bd.bytes
  have hml : c.maxLocals = 3 := hml0
  have hown : s.vm.findClass "com/example/prudent_till/prudenttill/model/RequestKey" = some m.cls := findClass_of_methodNamed Bd.named
  have hnm := (name_of_methodNamed Bd.named Bd.method).1
  have X0 : Stand p l e ({ frames := 0, cells := 0, slots := 0, locals := 0 } : Room) s m #[(.ref a), (.ref a')] below meth c s₁ [] 0 0 := Stand.of_body Bd
  have e0 : s₁.heap = h0 := by rw [← hh, Bd.state]; rfl
  have N0 := Fr.nil n0
  refine own_begin (own_eqS_ef m a a') ?_
  show Ends p.tables e below (s₁.setTop (mkF m 0 #[.val (.ref a), .val (.ref a'), .unset] [])) _
  refine s_aloadN (pc' := 1) X0.here hx (hb hby own_d8_0) rfl rfl rfl ?_
  obtain ⟨Tq, Xq, eq_, sq⟩ := Jvm.RoadKit.instNo X0 hx hZ hown (hw _ (List.mem_of_getElem? (i := 58) rfl)) e0 E_s (own_no (hw _ (List.mem_of_getElem? (i := 71) rfl)) (hw _ (List.mem_of_getElem? (i := 72) rfl)) (hw _ (List.mem_of_getElem? (i := 1) rfl)) (by decide) (by decide)) (g := (mkF m 1 #[.val (.ref a), .val (.ref a'), .unset] [(.ref a')])) rfl rfl (hb hby own_d8_1)
  refine own_via (sq) ?_
  show Ends p.tables e below (Tq.setTop (mkF m 4 #[.val (.ref a), .val (.ref a'), .unset] [(.int (0 : Int32))])) _
  have hk1 : (0 : Int32) = (0 : Int32) := rfl
  refine s_ifYes (pc' := 72) Xq.here hx (hb hby own_d8_4) ((if0 _ _).trans (teq hk1).1) (by decide) (by decide) ?_
  refine s_iconst (pc' := 73) Xq.here hx (v := (0 : Int32)) (hb hby own_d8_72) rfl rfl ?_
  obtain ⟨fs, hr, hrun, hended, hW, hsame⟩ := Xq.leave (v := some (.int (0 : Int32))) (fun h => by rw [Bd.returns] at h; cases h)
  refine ⟨_, _, retN Xq hx (t := .boolean) Bd.returns (by simp) (hb hby own_d8_73) hr, hrun, hended, _, _, rfl, ?_, ⟨_, rfl⟩, hW, hsame.mono (by decide) (by decide)⟩
  show own_eqS_Q Z a a' h0 n0 _ Tq.heap _
  rw [eq_]
  exact ⟨rfl, N0, rfl⟩
theorem own_d8_7 : decode prog_59_method_6_code 7 = .ok (.aload_n 1, 1) := by decide +kernel
theorem own_d8_8 : decode prog_59_method_6_code 8 = .ok (.checkcast 18, 3) := by decide +kernel
theorem own_d8_11 : decode prog_59_method_6_code 11 = .ok (.astore_n 2, 1) := by decide +kernel
theorem own_d8_12 : decode prog_59_method_6_code 12 = .ok (.aload_n 0, 1) := by decide +kernel
theorem own_d8_13 : decode prog_59_method_6_code 13 = .ok (.getfield 17, 3) := by decide +kernel
theorem own_d8_16 : decode prog_59_method_6_code 16 = .ok (.aload_n 2, 1) := by decide +kernel
theorem own_d8_17 : decode prog_59_method_6_code 17 = .ok (.getfield 17, 3) := by decide +kernel
theorem own_d8_20 : decode prog_59_method_6_code 20 = .ok (.invokevirtual 34, 3) := by decide +kernel
theorem own_pd7 : parseMethodDescriptor "(Ljava/lang/Object;)Z" = some ⟨[(.object "java/lang/Object")], some .boolean⟩ := by decide +kernel
theorem own_d8_23 : decode prog_59_method_6_code 23 = .ok (.ifCond .eq 49, 3) := by decide +kernel
theorem own_d8_26 : decode prog_59_method_6_code 26 = .ok (.aload_n 0, 1) := by decide +kernel
theorem own_d8_27 : decode prog_59_method_6_code 27 = .ok (.getfield 24, 3) := by decide +kernel
theorem own_d8_30 : decode prog_59_method_6_code 30 = .ok (.aload_n 2, 1) := by decide +kernel
theorem own_d8_31 : decode prog_59_method_6_code 31 = .ok (.getfield 24, 3) := by decide +kernel
theorem own_d8_34 : decode prog_59_method_6_code 34 = .ok (.invokevirtual 34, 3) := by decide +kernel
theorem own_d8_37 : decode prog_59_method_6_code 37 = .ok (.ifCond .eq 35, 3) := by decide +kernel
theorem own_d8_40 : decode prog_59_method_6_code 40 = .ok (.aload_n 0, 1) := by decide +kernel
theorem own_d8_41 : decode prog_59_method_6_code 41 = .ok (.getfield 28, 3) := by decide +kernel
theorem own_d8_44 : decode prog_59_method_6_code 44 = .ok (.aload_n 2, 1) := by decide +kernel
theorem own_d8_45 : decode prog_59_method_6_code 45 = .ok (.getfield 28, 3) := by decide +kernel
theorem own_d8_48 : decode prog_59_method_6_code 48 = .ok (.invokevirtual 34, 3) := by decide +kernel
theorem own_d8_51 : decode prog_59_method_6_code 51 = .ok (.ifCond .eq 21, 3) := by decide +kernel
theorem own_d8_54 : decode prog_59_method_6_code 54 = .ok (.aload_n 0, 1) := by decide +kernel
theorem own_d8_55 : decode prog_59_method_6_code 55 = .ok (.getfield 32, 3) := by decide +kernel
theorem own_d8_58 : decode prog_59_method_6_code 58 = .ok (.aload_n 2, 1) := by decide +kernel
theorem own_d8_59 : decode prog_59_method_6_code 59 = .ok (.getfield 32, 3) := by decide +kernel
theorem own_d8_62 : decode prog_59_method_6_code 62 = .ok (.invokevirtual 34, 3) := by decide +kernel
theorem own_d8_65 : decode prog_59_method_6_code 65 = .ok (.ifCond .eq 7, 3) := by decide +kernel
theorem own_d8_68 : decode prog_59_method_6_code 68 = .ok (.iconst 1, 1) := by decide +kernel
theorem own_d8_69 : decode prog_59_method_6_code 69 = .ok (.goto 4, 3) := by decide +kernel
theorem own_eqA_ef (m : MethodId) (a : Addr) (a' : Addr) (cs : Int32) (s1 : Addr) (b1 : Addr) (k1 : ClassId) (z1 : Int32) (l1 : List Value) (s2 : Addr) (b2 : Addr) (k2 : ClassId) (z2 : Int32) (l2 : List Value) (s3 : Addr) (b3 : Addr) (k3 : ClassId) (z3 : Int32) (l3 : List Value) (s4 : Addr) (b4 : Addr) (k4 : ClassId) (z4 : Int32) (l4 : List Value) (s5 : Addr) (b5 : Addr) (k5 : ClassId) (z5 : Int32) (l5 : List Value) (s6 : Addr) (b6 : Addr) (k6 : ClassId) (z6 : Int32) (l6 : List Value) (s7 : Addr) (b7 : Addr) (k7 : ClassId) (z7 : Int32) (l7 : List Value) (s8 : Addr) (b8 : Addr) (k8 : ClassId) (z8 : Int32) (l8 : List Value) (r1 : Int32) (r2 : Int32) (r3 : Int32) (r4 : Int32) : entryFrame m #[(.ref a), (.ref a')] 3 = mkF m 0 #[.val (.ref a), .val (.ref a'), .unset] [] := by first | (simp [entryFrame, mkF, argsToLocals, Value.category]; done) | rfl
def own_eqA_Q (Z : State) (a : Addr) (a' : Addr) (cs : Int32) (s1 : Addr) (b1 : Addr) (k1 : ClassId) (z1 : Int32) (l1 : List Value) (s2 : Addr) (b2 : Addr) (k2 : ClassId) (z2 : Int32) (l2 : List Value) (s3 : Addr) (b3 : Addr) (k3 : ClassId) (z3 : Int32) (l3 : List Value) (s4 : Addr) (b4 : Addr) (k4 : ClassId) (z4 : Int32) (l4 : List Value) (s5 : Addr) (b5 : Addr) (k5 : ClassId) (z5 : Int32) (l5 : List Value) (s6 : Addr) (b6 : Addr) (k6 : ClassId) (z6 : Int32) (l6 : List Value) (s7 : Addr) (b7 : Addr) (k7 : ClassId) (z7 : Int32) (l7 : List Value) (s8 : Addr) (b8 : Addr) (k8 : ClassId) (z8 : Int32) (l8 : List Value) (r1 : Int32) (r2 : Int32) (r3 : Int32) (r4 : Int32) (h0 : Heap) (n0 : Nat) (v : Option Value) (h : Heap) (L : List Loc) : Prop := v = some (.int (own_and r1 r2 r3 r4)) ∧ Fr n0 L ∧ h = h0
set_option maxRecDepth 65536 in
set_option maxHeartbeats 40000000 in
theorem own_eqA (l : Launch) (Z : State) (a0 : Array Value) (hw : ∀ d ∈ tables_1, d.before a0 Z = true) (ws : List Jvm.Cond) (a : Addr) (a' : Addr) (cs : Int32) (s1 : Addr) (b1 : Addr) (k1 : ClassId) (z1 : Int32) (l1 : List Value) (s2 : Addr) (b2 : Addr) (k2 : ClassId) (z2 : Int32) (l2 : List Value) (s3 : Addr) (b3 : Addr) (k3 : ClassId) (z3 : Int32) (l3 : List Value) (s4 : Addr) (b4 : Addr) (k4 : ClassId) (z4 : Int32) (l4 : List Value) (s5 : Addr) (b5 : Addr) (k5 : ClassId) (z5 : Int32) (l5 : List Value) (s6 : Addr) (b6 : Addr) (k6 : ClassId) (z6 : Int32) (l6 : List Value) (s7 : Addr) (b7 : Addr) (k7 : ClassId) (z7 : Int32) (l7 : List Value) (s8 : Addr) (b8 : Addr) (k8 : ClassId) (z8 : Int32) (l8 : List Value) (r1 : Int32) (r2 : Int32) (r3 : Int32) (r4 : Int32) (h0 : Heap) (n0 : Nat) (Z0 : n0 ≤ h0.size) (O0 : Old Z n0 h0) (S_cs : Sta Z Z.heap "java/lang/String" "COMPACT_STRINGS" "Z" (.int cs)) (hcs : ¬ cs = (0 : Int32)) (E_a' : Exa Z h0 a' "com/example/prudent_till/prudenttill/model/RequestKey") (F_p1 : Fld Z h0 a "com/example/prudent_till/prudenttill/model/RequestKey" "merchantId" "Ljava/lang/String;" (.ref s1)) (F_p2 : Fld Z h0 a "com/example/prudent_till/prudenttill/model/RequestKey" "requestId" "Ljava/lang/String;" (.ref s2)) (F_p3 : Fld Z h0 a "com/example/prudent_till/prudenttill/model/RequestKey" "method" "Ljava/lang/String;" (.ref s3)) (F_p4 : Fld Z h0 a "com/example/prudent_till/prudenttill/model/RequestKey" "path" "Ljava/lang/String;" (.ref s4)) (F_p5 : Fld Z h0 a' "com/example/prudent_till/prudenttill/model/RequestKey" "merchantId" "Ljava/lang/String;" (.ref s5)) (F_p6 : Fld Z h0 a' "com/example/prudent_till/prudenttill/model/RequestKey" "requestId" "Ljava/lang/String;" (.ref s6)) (F_p7 : Fld Z h0 a' "com/example/prudent_till/prudenttill/model/RequestKey" "method" "Ljava/lang/String;" (.ref s7)) (F_p8 : Fld Z h0 a' "com/example/prudent_till/prudenttill/model/RequestKey" "path" "Ljava/lang/String;" (.ref s8)) (E_s1 : Exa Z h0 s1 "java/lang/String") (F_c1 : Fld Z h0 s1 "java/lang/String" "coder" "B" (.int (0 : Int32))) (F_v1 : Fld Z h0 s1 "java/lang/String" "value" "[B" (.ref b1)) (V_b1 : Arv Z h0 b1 k1 .byte z1 l1 (.int (0 : Int32))) (E_s2 : Exa Z h0 s2 "java/lang/String") (F_c2 : Fld Z h0 s2 "java/lang/String" "coder" "B" (.int (0 : Int32))) (F_v2 : Fld Z h0 s2 "java/lang/String" "value" "[B" (.ref b2)) (V_b2 : Arv Z h0 b2 k2 .byte z2 l2 (.int (0 : Int32))) (E_s3 : Exa Z h0 s3 "java/lang/String") (F_c3 : Fld Z h0 s3 "java/lang/String" "coder" "B" (.int (0 : Int32))) (F_v3 : Fld Z h0 s3 "java/lang/String" "value" "[B" (.ref b3)) (V_b3 : Arv Z h0 b3 k3 .byte z3 l3 (.int (0 : Int32))) (E_s4 : Exa Z h0 s4 "java/lang/String") (F_c4 : Fld Z h0 s4 "java/lang/String" "coder" "B" (.int (0 : Int32))) (F_v4 : Fld Z h0 s4 "java/lang/String" "value" "[B" (.ref b4)) (V_b4 : Arv Z h0 b4 k4 .byte z4 l4 (.int (0 : Int32))) (E_s5 : Exa Z h0 s5 "java/lang/String") (F_c5 : Fld Z h0 s5 "java/lang/String" "coder" "B" (.int (0 : Int32))) (F_v5 : Fld Z h0 s5 "java/lang/String" "value" "[B" (.ref b5)) (V_b5 : Arv Z h0 b5 k5 .byte z5 l5 (.int (0 : Int32))) (E_s6 : Exa Z h0 s6 "java/lang/String") (F_c6 : Fld Z h0 s6 "java/lang/String" "coder" "B" (.int (0 : Int32))) (F_v6 : Fld Z h0 s6 "java/lang/String" "value" "[B" (.ref b6)) (V_b6 : Arv Z h0 b6 k6 .byte z6 l6 (.int (0 : Int32))) (E_s7 : Exa Z h0 s7 "java/lang/String") (F_c7 : Fld Z h0 s7 "java/lang/String" "coder" "B" (.int (0 : Int32))) (F_v7 : Fld Z h0 s7 "java/lang/String" "value" "[B" (.ref b7)) (V_b7 : Arv Z h0 b7 k7 .byte z7 l7 (.int (0 : Int32))) (E_s8 : Exa Z h0 s8 "java/lang/String") (F_c8 : Fld Z h0 s8 "java/lang/String" "coder" "B" (.int (0 : Int32))) (F_v8 : Fld Z h0 s8 "java/lang/String" "value" "[B" (.ref b8)) (V_b8 : Arv Z h0 b8 k8 .byte z8 l8 (.int (0 : Int32))) (r01 : r1 = 0 ∨ r1 = 1) (hr1 : r1 = 1 ↔ own_same_ z1 l1 z5 l5) (r02 : r2 = 0 ∨ r2 = 1) (hr2 : r2 = 1 ↔ own_same_ z2 l2 z6 l6) (r03 : r3 = 0 ∨ r3 = 1) (hr3 : r3 = 1 ↔ own_same_ z3 l3 z7 l7) (r04 : r4 = 0 ∨ r4 = 1) (hr4 : r4 = 1 ↔ own_same_ z4 l4 z8 l8) :
    MetFree l (⟨"com/example/prudent_till/prudenttill/model/RequestKey", "equals", "(Ljava/lang/Object;)Z"⟩ : MethodName) (head1 (Jvm.Cond.code (⟨"com/example/prudent_till/prudenttill/model/RequestKey", "equals", "(Ljava/lang/Object;)Z"⟩ : MethodName) prog_59_method_6_code 3 (some .boolean) :: ws) ({ frames := 2, cells := 0, slots := 0, locals := 28 } : Room)) (fun as_ U => as_ = #[(.ref a), (.ref a')] ∧ Z.Warmed39 U.vm ∧ U.heap = h0) (fun _ _ _ _ _ => True) (fun _ U_ o_ V_ => ∃ v_ L_, o_ = .returned v_ ∧ own_eqA_Q Z a a' cs s1 b1 k1 z1 l1 s2 b2 k2 z2 l2 s3 b3 k3 z3 l3 s4 b4 k4 z4 l4 s5 b5 k5 z5 l5 s6 b6 k6 z6 l6 s7 b7 k7 z7 l7 s8 b8 k8 z8 l8 r1 r2 r3 r4 h0 n0 v_ V_.heap L_ ∧ FrameEnd U_ o_ V_ L_ ({ frames := 2, cells := 0, slots := 0, locals := 28 } : Room).cells ({ frames := 2, cells := 0, slots := 0, locals := 28 } : Room).slots) := by
  refine MetFree.of_bodySF (plainFor_of_name own_pn5) hisR ?_
  intro p e s m args below meth c s₁ Bd hml0 hP hK
  obtain ⟨rfl, hZ, hh⟩ := hP
  have hx := Bd.exec
  have hby := Bd.bytes
  have hml : c.maxLocals = 3 := hml0
  have hown : s.vm.findClass "com/example/prudent_till/prudenttill/model/RequestKey" = some m.cls := findClass_of_methodNamed Bd.named
  have hnm := (name_of_methodNamed Bd.named Bd.method).1
  have X0 : Stand p l e ({ frames := 2, cells := 0, slots := 0, locals := 28 } : Room) s m #[(.ref a), (.ref a')] below meth c s₁ [] 0 0 := Stand.of_body Bd
  have e0 : s₁.heap = h0 := by rw [← hh, Bd.state]; rfl
  have N0 := Fr.nil n0
  refine own_begin (own_eqA_ef m a a' cs s1 b1 k1 z1 l1 s2 b2 k2 z2 l2 s3 b3 k3 z3 l3 s4 b4 k4 z4 l4 s5 b5 k5 z5 l5 s6 b6 k6 z6 l6 s7 b7 k7 z7 l7 s8 b8 k8 z8 l8 r1 r2 r3 r4) ?_
  show Ends p.tables e below (s₁.setTop (mkF m 0 #[.val (.ref a), .val (.ref a'), .unset] [])) _
  refine s_aloadN (pc' := 1) X0.here hx (hb hby own_d8_0) rfl rfl rfl ?_
  refine s_instY (pc' := 4) X0 hx hZ hown (hw _ (List.mem_of_getElem? (i := 58) rfl)) e0 (Ins.self E_a') (hb hby own_d8_1) rfl fun T1 X1 e1 => ?_
  have hk2 : ¬ ((1 : Int32) = (0 : Int32)) := by decide
  refine s_ifNo (pc' := 7) X1.here hx (hb hby own_d8_4) ((if0 _ _).trans (feq hk2).1) rfl ?_
  refine s_aloadN (pc' := 8) X1.here hx (hb hby own_d8_7) rfl rfl rfl ?_
  refine s_castY (pc' := 11) X1 hx hZ hown (hw _ (List.mem_of_getElem? (i := 58) rfl)) e1 (Ins.self E_a') (hb hby own_d8_8) rfl fun T3 X3 e3 => ?_
  refine s_astoreN (pc' := 12) X3.here hx (l' := #[.val (.ref a), .val (.ref a'), .val (.ref a')]) (hb hby own_d8_11) rfl rfl rfl ?_
  refine s_aloadN (pc' := 13) X3.here hx (hb hby own_d8_12) rfl rfl rfl ?_
  refine s_getF (pc' := 16) X3 hx hZ hown (host := "") (Or.inl (hw _ (List.mem_of_getElem? (i := 39) rfl))) Via.refl e3 F_p1 (hb hby own_d8_13) rfl fun T4 X4 e4 => ?_
  refine s_aloadN (pc' := 17) X4.here hx (hb hby own_d8_16) rfl rfl rfl ?_
  refine s_getF (pc' := 20) X4 hx hZ hown (host := "") (Or.inl (hw _ (List.mem_of_getElem? (i := 39) rfl))) Via.refl e4 F_p5 (hb hby own_d8_17) rfl fun T5 X5 e5 => ?_
  refine s_callV (pc' := 23) (W := 0) X5 hx hZ  hown (hw _ (List.mem_of_getElem? (i := 60) rfl)) (hw _ (List.mem_of_getElem? (i := 61) rfl)) (hw _ (List.mem_of_getElem? (i := 9) rfl)) (hw _ (List.mem_of_getElem? (i := 64) rfl)) (hw _ (List.mem_of_getElem? (i := 63) rfl)) (hw _ (List.mem_of_getElem? (i := 62) rfl)) (by decide) e5 E_s1 (own_seq l Z a0 hw [] s1 s5 cs b1 b5 k1 z1 l1 k5 z5 l5 r1 h0 n0 Z0 O0 S_cs hcs F_c1 F_v1 F_c5 F_v5 E_s5 V_b1 V_b5 r01 hr1) (by rw [hml]; rfl) [(.ref s5)] [] rfl (lenOf own_pd7 rfl) rfl (Nat.le_of_eq rfl) (by decide) (by decide) (by decide) (by decide) rfl (hb hby own_d8_20) fun T6 v6 Lc6 X6 hQ6 => ?_
  obtain ⟨rfl, Nq6, eh6⟩ := hQ6
  have N6 := Fr.app N0 Nq6
  show Ends p.tables e below (T6.setTop (mkF m 23 #[.val (.ref a), .val (.ref a'), .val (.ref a')] [(.int r1)])) _
  by_cases hq1 : r1 = (0 : Int32)
  · refine s_ifYes (pc' := 72) X6.here hx (hb hby own_d8_23) ((if0 _ _).trans (teq hq1).1) (by decide) (by decide) ?_
    refine s_iconst (pc' := 73) X6.here hx (v := (0 : Int32)) (hb hby own_d8_72) rfl rfl ?_
    obtain ⟨fs, hr, hrun, hended, hW, hsame⟩ := X6.leave (v := some (.int (0 : Int32))) (fun h => by rw [Bd.returns] at h; cases h)
    refine ⟨_, _, retN X6 hx (t := .boolean) Bd.returns (by simp) (hb hby own_d8_73) hr, hrun, hended, _, _, rfl, ?_, ⟨_, rfl⟩, hW, hsame.mono (by decide) (by decide)⟩
    show own_eqA_Q Z a a' cs s1 b1 k1 z1 l1 s2 b2 k2 z2 l2 s3 b3 k3 z3 l3 s4 b4 k4 z4 l4 s5 b5 k5 z5 l5 s6 b6 k6 z6 l6 s7 b7 k7 z7 l7 s8 b8 k8 z8 l8 r1 r2 r3 r4 h0 n0 _ T6.heap _
    rw [eh6]
    exact ⟨by unfold own_and; rw [if_pos hq1] <;> rfl, N6, rfl⟩
  · refine s_ifNo (pc' := 26) X6.here hx (hb hby own_d8_23) ((if0 _ _).trans (feq hq1).1) rfl ?_
    refine s_aloadN (pc' := 27) X6.here hx (hb hby own_d8_26) rfl rfl rfl ?_
    refine s_getF (pc' := 30) X6 hx hZ hown (host := "") (Or.inl (hw _ (List.mem_of_getElem? (i := 42) rfl))) Via.refl eh6 F_p2 (hb hby own_d8_27) rfl fun T7 X7 e7 => ?_
    refine s_aloadN (pc' := 31) X7.here hx (hb hby own_d8_30) rfl rfl rfl ?_
    refine s_getF (pc' := 34) X7 hx hZ hown (host := "") (Or.inl (hw _ (List.mem_of_getElem? (i := 42) rfl))) Via.refl e7 F_p6 (hb hby own_d8_31) rfl fun T8 X8 e8 => ?_
    refine s_callV (pc' := 37) (W := 0) X8 hx hZ  hown (hw _ (List.mem_of_getElem? (i := 60) rfl)) (hw _ (List.mem_of_getElem? (i := 61) rfl)) (hw _ (List.mem_of_getElem? (i := 9) rfl)) (hw _ (List.mem_of_getElem? (i := 64) rfl)) (hw _ (List.mem_of_getElem? (i := 63) rfl)) (hw _ (List.mem_of_getElem? (i := 62) rfl)) (by decide) e8 E_s2 (own_seq l Z a0 hw [] s2 s6 cs b2 b6 k2 z2 l2 k6 z6 l6 r2 h0 n0 Z0 O0 S_cs hcs F_c2 F_v2 F_c6 F_v6 E_s6 V_b2 V_b6 r02 hr2) (by rw [hml]; rfl) [(.ref s6)] [] rfl (lenOf own_pd7 rfl) rfl (Nat.le_of_eq rfl) (by decide) (by decide) (by decide) (by decide) rfl (hb hby own_d8_34) fun T9 v9 Lc9 X9 hQ9 => ?_
    obtain ⟨rfl, Nq9, eh9⟩ := hQ9
    have N9 := Fr.app N6 Nq9
    show Ends p.tables e below (T9.setTop (mkF m 37 #[.val (.ref a), .val (.ref a'), .val (.ref a')] [(.int r2)])) _
    by_cases hq2 : r2 = (0 : Int32)
    · refine s_ifYes (pc' := 72) X9.here hx (hb hby own_d8_37) ((if0 _ _).trans (teq hq2).1) (by decide) (by decide) ?_
      refine s_iconst (pc' := 73) X9.here hx (v := (0 : Int32)) (hb hby own_d8_72) rfl rfl ?_
      obtain ⟨fs, hr, hrun, hended, hW, hsame⟩ := X9.leave (v := some (.int (0 : Int32))) (fun h => by rw [Bd.returns] at h; cases h)
      refine ⟨_, _, retN X9 hx (t := .boolean) Bd.returns (by simp) (hb hby own_d8_73) hr, hrun, hended, _, _, rfl, ?_, ⟨_, rfl⟩, hW, hsame.mono (by decide) (by decide)⟩
      show own_eqA_Q Z a a' cs s1 b1 k1 z1 l1 s2 b2 k2 z2 l2 s3 b3 k3 z3 l3 s4 b4 k4 z4 l4 s5 b5 k5 z5 l5 s6 b6 k6 z6 l6 s7 b7 k7 z7 l7 s8 b8 k8 z8 l8 r1 r2 r3 r4 h0 n0 _ T9.heap _
      rw [eh9]
      exact ⟨by unfold own_and; rw [if_neg hq1, if_pos hq2] <;> rfl, N9, rfl⟩
    · refine s_ifNo (pc' := 40) X9.here hx (hb hby own_d8_37) ((if0 _ _).trans (feq hq2).1) rfl ?_
      refine s_aloadN (pc' := 41) X9.here hx (hb hby own_d8_40) rfl rfl rfl ?_
      refine s_getF (pc' := 44) X9 hx hZ hown (host := "") (Or.inl (hw _ (List.mem_of_getElem? (i := 45) rfl))) Via.refl eh9 F_p3 (hb hby own_d8_41) rfl fun T10 X10 e10 => ?_
      refine s_aloadN (pc' := 45) X10.here hx (hb hby own_d8_44) rfl rfl rfl ?_
      refine s_getF (pc' := 48) X10 hx hZ hown (host := "") (Or.inl (hw _ (List.mem_of_getElem? (i := 45) rfl))) Via.refl e10 F_p7 (hb hby own_d8_45) rfl fun T11 X11 e11 => ?_
      refine s_callV (pc' := 51) (W := 0) X11 hx hZ  hown (hw _ (List.mem_of_getElem? (i := 60) rfl)) (hw _ (List.mem_of_getElem? (i := 61) rfl)) (hw _ (List.mem_of_getElem? (i := 9) rfl)) (hw _ (List.mem_of_getElem? (i := 64) rfl)) (hw _ (List.mem_of_getElem? (i := 63) rfl)) (hw _ (List.mem_of_getElem? (i := 62) rfl)) (by decide) e11 E_s3 (own_seq l Z a0 hw [] s3 s7 cs b3 b7 k3 z3 l3 k7 z7 l7 r3 h0 n0 Z0 O0 S_cs hcs F_c3 F_v3 F_c7 F_v7 E_s7 V_b3 V_b7 r03 hr3) (by rw [hml]; rfl) [(.ref s7)] [] rfl (lenOf own_pd7 rfl) rfl (Nat.le_of_eq rfl) (by decide) (by decide) (by decide) (by decide) rfl (hb hby own_d8_48) fun T12 v12 Lc12 X12 hQ12 => ?_
      obtain ⟨rfl, Nq12, eh12⟩ := hQ12
      have N12 := Fr.app N9 Nq12
      show Ends p.tables e below (T12.setTop (mkF m 51 #[.val (.ref a), .val (.ref a'), .val (.ref a')] [(.int r3)])) _
      by_cases hq3 : r3 = (0 : Int32)
      · refine s_ifYes (pc' := 72) X12.here hx (hb hby own_d8_51) ((if0 _ _).trans (teq hq3).1) (by decide) (by decide) ?_
        refine s_iconst (pc' := 73) X12.here hx (v := (0 : Int32)) (hb hby own_d8_72) rfl rfl ?_
        obtain ⟨fs, hr, hrun, hended, hW, hsame⟩ := X12.leave (v := some (.int (0 : Int32))) (fun h => by rw [Bd.returns] at h; cases h)
        refine ⟨_, _, retN X12 hx (t := .boolean) Bd.returns (by simp) (hb hby own_d8_73) hr, hrun, hended, _, _, rfl, ?_, ⟨_, rfl⟩, hW, hsame.mono (by decide) (by decide)⟩
        show own_eqA_Q Z a a' cs s1 b1 k1 z1 l1 s2 b2 k2 z2 l2 s3 b3 k3 z3 l3 s4 b4 k4 z4 l4 s5 b5 k5 z5 l5 s6 b6 k6 z6 l6 s7 b7 k7 z7 l7 s8 b8 k8 z8 l8 r1 r2 r3 r4 h0 n0 _ T12.heap _
        rw [eh12]
        exact ⟨by unfold own_and; rw [if_neg hq1, if_neg hq2, if_pos hq3] <;> rfl, N12, rfl⟩
      · refine s_ifNo (pc' := 54) X12.here hx (hb hby own_d8_51) ((if0 _ _).trans (feq hq3).1) rfl ?_
        refine s_aloadN (pc' := 55) X12.here hx (hb hby own_d8_54) rfl rfl rfl ?_
        refine s_getF (pc' := 58) X12 hx hZ hown (host := "") (Or.inl (hw _ (List.mem_of_getElem? (i := 48) rfl))) Via.refl eh12 F_p4 (hb hby own_d8_55) rfl fun T13 X13 e13 => ?_
        refine s_aloadN (pc' := 59) X13.here hx (hb hby own_d8_58) rfl rfl rfl ?_
        refine s_getF (pc' := 62) X13 hx hZ hown (host := "") (Or.inl (hw _ (List.mem_of_getElem? (i := 48) rfl))) Via.refl e13 F_p8 (hb hby own_d8_59) rfl fun T14 X14 e14 => ?_
        refine s_callV (pc' := 65) (W := 0) X14 hx hZ  hown (hw _ (List.mem_of_getElem? (i := 60) rfl)) (hw _ (List.mem_of_getElem? (i := 61) rfl)) (hw _ (List.mem_of_getElem? (i := 9) rfl)) (hw _ (List.mem_of_getElem? (i := 64) rfl)) (hw _ (List.mem_of_getElem? (i := 63) rfl)) (hw _ (List.mem_of_getElem? (i := 62) rfl)) (by decide) e14 E_s4 (own_seq l Z a0 hw [] s4 s8 cs b4 b8 k4 z4 l4 k8 z8 l8 r4 h0 n0 Z0 O0 S_cs hcs F_c4 F_v4 F_c8 F_v8 E_s8 V_b4 V_b8 r04 hr4) (by rw [hml]; rfl) [(.ref s8)] [] rfl (lenOf own_pd7 rfl) rfl (Nat.le_of_eq rfl) (by decide) (by decide) (by decide) (by decide) rfl (hb hby own_d8_62) fun T15 v15 Lc15 X15 hQ15 => ?_
        obtain ⟨rfl, Nq15, eh15⟩ := hQ15
        have N15 := Fr.app N12 Nq15
        show Ends p.tables e below (T15.setTop (mkF m 65 #[.val (.ref a), .val (.ref a'), .val (.ref a')] [(.int r4)])) _
        by_cases hq4 : r4 = (0 : Int32)
        · refine s_ifYes (pc' := 72) X15.here hx (hb hby own_d8_65) ((if0 _ _).trans (teq hq4).1) (by decide) (by decide) ?_
          refine s_iconst (pc' := 73) X15.here hx (v := (0 : Int32)) (hb hby own_d8_72) rfl rfl ?_
          obtain ⟨fs, hr, hrun, hended, hW, hsame⟩ := X15.leave (v := some (.int (0 : Int32))) (fun h => by rw [Bd.returns] at h; cases h)
          refine ⟨_, _, retN X15 hx (t := .boolean) Bd.returns (by simp) (hb hby own_d8_73) hr, hrun, hended, _, _, rfl, ?_, ⟨_, rfl⟩, hW, hsame.mono (by decide) (by decide)⟩
          show own_eqA_Q Z a a' cs s1 b1 k1 z1 l1 s2 b2 k2 z2 l2 s3 b3 k3 z3 l3 s4 b4 k4 z4 l4 s5 b5 k5 z5 l5 s6 b6 k6 z6 l6 s7 b7 k7 z7 l7 s8 b8 k8 z8 l8 r1 r2 r3 r4 h0 n0 _ T15.heap _
          rw [eh15]
          exact ⟨by unfold own_and; rw [if_neg hq1, if_neg hq2, if_neg hq3, hq4] <;> rfl, N15, rfl⟩
        · refine s_ifNo (pc' := 68) X15.here hx (hb hby own_d8_65) ((if0 _ _).trans (feq hq4).1) rfl ?_
          refine s_iconst (pc' := 69) X15.here hx (v := (1 : Int32)) (hb hby own_d8_68) rfl rfl ?_
          refine s_goto (pc' := 73) X15.here hx (hb hby own_d8_69) (by decide) (by decide) ?_
          obtain ⟨fs, hr, hrun, hended, hW, hsame⟩ := X15.leave (v := some (.int (1 : Int32))) (fun h => by rw [Bd.returns] at h; cases h)
          refine ⟨_, _, retN X15 hx (t := .boolean) Bd.returns (by simp) (hb hby own_d8_73) hr, hrun, hended, _, _, rfl, ?_, ⟨_, rfl⟩, hW, hsame.mono (by decide) (by decide)⟩
          show own_eqA_Q Z a a' cs s1 b1 k1 z1 l1 s2 b2 k2 z2 l2 s3 b3 k3 z3 l3 s4 b4 k4 z4 l4 s5 b5 k5 z5 l5 s6 b6 k6 z6 l6 s7 b7 k7 z7 l7 s8 b8 k8 z8 l8 r1 r2 r3 r4 h0 n0 _ T15.heap _
          rw [eh15]
          exact ⟨by unfold own_and; rw [if_neg hq1, if_neg hq2, if_neg hq3, r04.resolve_left hq4] <;> rfl, N15, rfl⟩
theorem own_pd8 : parseMethodDescriptor "(I)Ljava/lang/String;" = some ⟨[.int], some (.object "java/lang/String")⟩ := by decide +kernel
theorem own_pd9 : parseMethodDescriptor "(Ljava/lang/String;Ljava/lang/String;Ljava/lang/String;Ljava/lang/String;)V" = some ⟨[(.object "java/lang/String"), (.object "java/lang/String"), (.object "java/lang/String"), (.object "java/lang/String")], none⟩ := by decide +kernel
theorem own_pd10 : parseMethodDescriptor "(I)I" = some ⟨[.int], some .int⟩ := by decide +kernel
theorem own_rm0_ef (m : MethodId) (p0 : Int32) (p1 : Int32) (p2 : Int32) (p3 : Int32) (p4 : Int32) (p5 : Int32) (cs : Int32) : entryFrame m #[(.int p0), (.int p1), (.int p2), (.int p3), (.int p4), (.int p5)] maxLocals = mkF m 0 #[.val (.int p0), .val (.int p1), .val (.int p2), .val (.int p3), .val (.int p4), .val (.int p5), .unset, .unset, .unset, .unset, .unset, .unset, .unset, .unset] [] := by first | (simp [entryFrame, mkF, argsToLocals, Value.category, maxLocals]; done) | rfl
def own_rm0_Q (Z : State) (p0 : Int32) (p1 : Int32) (p2 : Int32) (p3 : Int32) (p4 : Int32) (p5 : Int32) (cs : Int32) (h0 : Heap) (n0 : Nat) (v : Option Value) (h : Heap) (L : List Loc) : Prop := v = some (.int 1) ∧ Fr n0 L
set_option maxRecDepth 65536 in
set_option maxHeartbeats 40000000 in
theorem own_rm0 (l : Launch) (Z : State) (a0 : Array Value) (hw : ∀ d ∈ tables_1, d.before a0 Z = true) (ws : List Jvm.Cond) (p0 : Int32) (p1 : Int32) (p2 : Int32) (p3 : Int32) (p4 : Int32) (p5 : Int32) (cs : Int32) (h0 : Heap) (n0 : Nat) (Z0 : n0 ≤ h0.size) (O0 : Old Z n0 h0) (S_cs : Sta Z Z.heap "java/lang/String" "COMPACT_STRINGS" "Z" (.int cs)) (hcs : ¬ cs = (0 : Int32)) :
    MetFree l x (head1 (Jvm.Cond.code x code maxLocals ret :: ws) room_1) (fun as_ U => as_ = #[(.int p0), (.int p1), (.int p2), (.int p3), (.int p4), (.int p5)] ∧ Z.Warmed39 U.vm ∧ U.heap = h0 ∧ CHv Z consts_1 U.vm h0 ∧ ∀ x_ ∈ ([] : List Addr), Safe Z consts_1 U.vm h0 x_) (fun _ _ _ _ _ => True) (fun _ U_ o_ V_ => ∃ v_ L_, o_ = .returned v_ ∧ own_rm0_Q Z p0 p1 p2 p3 p4 p5 cs h0 n0 v_ V_.heap L_ ∧ CHr Z consts_1 U_.vm U_.heap V_.vm V_.heap ∧ ReturnedEndW U_ o_ V_ L_ room_1.cells room_1.slots) := by
  refine MetFree.of_bodySF (plainFor_of_name own_pn3) hisR ?_
  intro p e s m args below meth c s₁ Bd hml0 hP hK
  obtain ⟨rfl, hZ, hh, HC0, hsf0⟩ := hP
  have hx := Bd.exec
  have hby := Bd.bytes
  have hml : c.maxLocals = 14 := hml0
  have hown : s.vm.findClass "com/example/prudent_till/prudenttill/model/RequestKeyEqualsPinLaw" = some m.cls := findClass_of_methodNamed Bd.named
  have hnm := (name_of_methodNamed Bd.named Bd.method).1
  have X0 : Stand p l e room_1 s m #[(.int p0), (.int p1), (.int p2), (.int p3), (.int p4), (.int p5)] below meth c s₁ [] 0 0 := Stand.of_body Bd
  have e0 : s₁.heap = h0 := by rw [← hh, Bd.state]; rfl
  have N0 := Fr.nil n0
  refine own_begin (own_rm0_ef m p0 p1 p2 p3 p4 p5 cs) ?_
  show Ends p.tables e below (s₁.setTop (mkF m 0 #[.val (.int p0), .val (.int p1), .val (.int p2), .val (.int p3), .val (.int p4), .val (.int p5), .unset, .unset, .unset, .unset, .unset, .unset, .unset, .unset] [])) _
  have HR0 : CHr Z consts_1 s.vm h0 s.vm h0 := CHr.refl HC0
  have X0w : Stand p l e room_1 (s.setVm s.vm) m #[(.int p0), (.int p1), (.int p2), (.int p3), (.int p4), (.int p5)] below meth c s₁ [] 0 0 := X0
  have hS : s.Since s.vm 0 := (State.WarmedH.refl s).since 0
  have hk : 0 ≤ h0.size := Nat.zero_le _
  refine s_newO (pc' := 3) X0w hx hZ hown (hw _ (List.mem_of_getElem? (i := 0) rfl)) (hw _ (List.mem_of_getElem? (i := 1) rfl)) (hw _ (List.mem_of_getElem? (i := 2) rfl)) e0 (hb hby at_0) (by decide) (by decide) rfl fun T1 hp1 X1 e1 E1 a1 gq1 A1 D1 => ?_
  have g_a1 : n0 ≤ a1 := Nat.le_trans Z0 (Nat.le_of_eq gq1.symm)
  have sf2 := Safe.ext E1 HC0 (Safe.new (Nat.le_of_eq gq1.symm))
  have HR3 := CHr.trans HR0 (CHr.ext E1 HC0)
  have HC4 := CHv.ext E1 HC0
  have O5 := O0.ext E1
  replace hk := Nat.le_trans hk E1.1
  have Z6 : n0 ≤ hp1.size := Nat.le_trans Z0 E1.1
  have F7 : Fld Z hp1 a1 "com/example/prudent_till/prudenttill/model/RequestKey" "merchantId" "Ljava/lang/String;" .null := D1 (Or.inr (hw _ (List.mem_of_getElem? (i := 40) rfl))) (ty := (.object "java/lang/String")) (by decide)
  have F8 : Fld Z hp1 a1 "com/example/prudent_till/prudenttill/model/RequestKey" "requestId" "Ljava/lang/String;" .null := D1 (Or.inr (hw _ (List.mem_of_getElem? (i := 43) rfl))) (ty := (.object "java/lang/String")) (by decide)
  have F9 : Fld Z hp1 a1 "com/example/prudent_till/prudenttill/model/RequestKey" "method" "Ljava/lang/String;" .null := D1 (Or.inr (hw _ (List.mem_of_getElem? (i := 46) rfl))) (ty := (.object "java/lang/String")) (by decide)
  have F10 : Fld Z hp1 a1 "com/example/prudent_till/prudenttill/model/RequestKey" "path" "Ljava/lang/String;" .null := D1 (Or.inr (hw _ (List.mem_of_getElem? (i := 49) rfl))) (ty := (.object "java/lang/String")) (by decide)
  refine s_dup (pc' := 4) X1.here hx (hb hby at_3) rfl rfl ?_
  refine s_iloadN (pc' := 5) X1.here hx (hb hby at_4) rfl rfl ?_
  refine s_callSH (pc' := 8) (W := 2) X1 hx hZ hS hk (own_EW hw) HC4  hown (hw _ (List.mem_of_getElem? (i := 3) rfl)) (hw _ (List.mem_of_getElem? (i := 4) rfl)) (hw _ (List.mem_of_getElem? (i := 5) rfl)) (hw _ (List.mem_of_getElem? (i := 6) rfl)) (by decide) e1 (own_str l Z a0 hw [] p0 cs hp1 n0 Z6 O5 S_cs hcs) own_safe0 (by rw [hml]; rfl) [(.int p0)] [(.ref a1), (.ref a1)] rfl (lenOf own_pd8 rfl) rfl (Nat.le_of_eq rfl) (by decide) (by decide) (by decide) (by decide) rfl (hb hby at_5) fun T11 v11 Lc11 X11 hS hZ hown hr11 hQ11 => ?_
  obtain ⟨s1, b1, k1, rfl, Nq11, Kq11, szs1, Es1, Fc1, Fv1, Vb1⟩ := hQ11
  have g_s1 : n0 ≤ s1 := Nat.le_trans Z6 szs1
  have ne12 : a1 ≠ s1 := Nat.ne_of_lt (Nat.lt_of_lt_of_le A1.lt szs1)
  have sf13 := CHr.safe hr11 A1.lt sf2
  have HR14 := CHr.trans HR3 (hr11)
  have HC15 := hr11.1
  have O16 := O5.keep Kq11 all0
  have N11 := Fr.app N0 Nq11
  have hk : T11.heap.size ≤ T11.heap.size := Nat.le_refl _
  have f17 := A1.keep Kq11
  have f18 := F7.keep Kq11 nin0
  have f19 := F8.keep Kq11 nin0
  have f20 := F9.keep Kq11 nin0
  have f21 := F10.keep Kq11 nin0
  have Z22 : n0 ≤ T11.heap.size := Nat.le_trans Z6 Kq11.1
  show Ends p.tables e below (T11.setTop (mkF m 8 #[.val (.int p0), .val (.int p1), .val (.int p2), .val (.int p3), .val (.int p4), .val (.int p5), .unset, .unset, .unset, .unset, .unset, .unset, .unset, .unset] [(.ref s1), (.ref a1), (.ref a1)])) _
  refine s_iloadN (pc' := 9) X11.here hx (hb hby at_8) rfl rfl ?_
  refine s_callSH (pc' := 12) (W := 3) X11 hx hZ hS hk (own_EW hw) HC15  hown (hw _ (List.mem_of_getElem? (i := 3) rfl)) (hw _ (List.mem_of_getElem? (i := 4) rfl)) (hw _ (List.mem_of_getElem? (i := 5) rfl)) (hw _ (List.mem_of_getElem? (i := 6) rfl)) (by decide) rfl (own_str l Z a0 hw [] p1 cs T11.heap n0 Z22 O16 S_cs hcs) own_safe0 (by rw [hml]; rfl) [(.int p1)] [(.ref s1), (.ref a1), (.ref a1)] rfl (lenOf own_pd8 rfl) rfl (Nat.le_of_eq rfl) (by decide) (by decide) (by decide) (by decide) rfl (hb hby at_9) fun T23 v23 Lc23 X23 hS hZ hown hr23 hQ23 => ?_
  obtain ⟨s2, b2, k2, rfl, Nq23, Kq23, szs2, Es2, Fc2, Fv2, Vb2⟩ := hQ23
  have g_s2 : n0 ≤ s2 := Nat.le_trans Z22 szs2
  have ne24 : a1 ≠ s2 := Nat.ne_of_lt (Nat.lt_of_lt_of_le f17.lt szs2)
  have ne25 : s1 ≠ s2 := Nat.ne_of_lt (Nat.lt_of_lt_of_le Es1.lt szs2)
  have ne26 : b1 ≠ s2 := Nat.ne_of_lt (Nat.lt_of_lt_of_le Vb1.lt szs2)
  have sf27 := CHr.safe hr23 f17.lt sf13
  have HR28 := CHr.trans HR14 (hr23)
  have HC29 := hr23.1
  have O30 := O16.keep Kq23 all0
  have N23 := Fr.app N11 Nq23
  have hk : T23.heap.size ≤ T23.heap.size := Nat.le_refl _
  have f31 := f17.keep Kq23
  have f32 := f18.keep Kq23 nin0
  have f33 := f19.keep Kq23 nin0
  have f34 := f20.keep Kq23 nin0
  have f35 := f21.keep Kq23 nin0
  have f36 := Es1.keep Kq23
  have f37 := Fc1.keep Kq23 nin0
  have f38 := Fv1.keep Kq23 nin0
  have f39 := Vb1.keep Kq23 nin0
  have Z40 : n0 ≤ T23.heap.size := Nat.le_trans Z22 Kq23.1
  show Ends p.tables e below (T23.setTop (mkF m 12 #[.val (.int p0), .val (.int p1), .val (.int p2), .val (.int p3), .val (.int p4), .val (.int p5), .unset, .unset, .unset, .unset, .unset, .unset, .unset, .unset] [(.ref s2), (.ref s1), (.ref a1), (.ref a1)])) _
  refine s_iloadN (pc' := 13) X23.here hx (hb hby at_12) rfl rfl ?_
  refine s_callSH (pc' := 16) (W := 4) X23 hx hZ hS hk (own_EW hw) HC29  hown (hw _ (List.mem_of_getElem? (i := 3) rfl)) (hw _ (List.mem_of_getElem? (i := 4) rfl)) (hw _ (List.mem_of_getElem? (i := 5) rfl)) (hw _ (List.mem_of_getElem? (i := 6) rfl)) (by decide) rfl (own_str l Z a0 hw [] p2 cs T23.heap n0 Z40 O30 S_cs hcs) own_safe0 (by rw [hml]; rfl) [(.int p2)] [(.ref s2), (.ref s1), (.ref a1), (.ref a1)] rfl (lenOf own_pd8 rfl) rfl (Nat.le_of_eq rfl) (by decide) (by decide) (by decide) (by decide) rfl (hb hby at_13) fun T41 v41 Lc41 X41 hS hZ hown hr41 hQ41 => ?_
  obtain ⟨s3, b3, k3, rfl, Nq41, Kq41, szs3, Es3, Fc3, Fv3, Vb3⟩ := hQ41
  have g_s3 : n0 ≤ s3 := Nat.le_trans Z40 szs3
  have ne42 : a1 ≠ s3 := Nat.ne_of_lt (Nat.lt_of_lt_of_le f31.lt szs3)
  have ne43 : s1 ≠ s3 := Nat.ne_of_lt (Nat.lt_of_lt_of_le f36.lt szs3)
  have ne44 : b1 ≠ s3 := Nat.ne_of_lt (Nat.lt_of_lt_of_le f39.lt szs3)
  have ne45 : s2 ≠ s3 := Nat.ne_of_lt (Nat.lt_of_lt_of_le Es2.lt szs3)
  have ne46 : b2 ≠ s3 := Nat.ne_of_lt (Nat.lt_of_lt_of_le Vb2.lt szs3)
  have sf47 := CHr.safe hr41 f31.lt sf27
  have HR48 := CHr.trans HR28 (hr41)
  have HC49 := hr41.1
  have O50 := O30.keep Kq41 all0
  have N41 := Fr.app N23 Nq41
  have hk : T41.heap.size ≤ T41.heap.size := Nat.le_refl _
  have f51 := f31.keep Kq41
  have f52 := f32.keep Kq41 nin0
  have f53 := f33.keep Kq41 nin0
  have f54 := f34.keep Kq41 nin0
  have f55 := f35.keep Kq41 nin0
  have f56 := f36.keep Kq41
  have f57 := f37.keep Kq41 nin0
  have f58 := f38.keep Kq41 nin0
  have f59 := f39.keep Kq41 nin0
  have f60 := Es2.keep Kq41
  have f61 := Fc2.keep Kq41 nin0
  have f62 := Fv2.keep Kq41 nin0
  have f63 := Vb2.keep Kq41 nin0
  have Z64 : n0 ≤ T41.heap.size := Nat.le_trans Z40 Kq41.1
  show Ends p.tables e below (T41.setTop (mkF m 16 #[.val (.int p0), .val (.int p1), .val (.int p2), .val (.int p3), .val (.int p4), .val (.int p5), .unset, .unset, .unset, .unset, .unset, .unset, .unset, .unset] [(.ref s3), (.ref s2), (.ref s1), (.ref a1), (.ref a1)])) _
  refine s_iloadN (pc' := 17) X41.here hx (hb hby at_16) rfl rfl ?_
  refine s_callSH (pc' := 20) (W := 5) X41 hx hZ hS hk (own_EW hw) HC49  hown (hw _ (List.mem_of_getElem? (i := 3) rfl)) (hw _ (List.mem_of_getElem? (i := 4) rfl)) (hw _ (List.mem_of_getElem? (i := 5) rfl)) (hw _ (List.mem_of_getElem? (i := 6) rfl)) (by decide) rfl (own_str l Z a0 hw [] p3 cs T41.heap n0 Z64 O50 S_cs hcs) own_safe0 (by rw [hml]; rfl) [(.int p3)] [(.ref s3), (.ref s2), (.ref s1), (.ref a1), (.ref a1)] rfl (lenOf own_pd8 rfl) rfl (Nat.le_of_eq rfl) (by decide) (by decide) (by decide) (by decide) rfl (hb hby at_17) fun T65 v65 Lc65 X65 hS hZ hown hr65 hQ65 => ?_
  obtain ⟨s4, b4, k4, rfl, Nq65, Kq65, szs4, Es4, Fc4, Fv4, Vb4⟩ := hQ65
  have g_s4 : n0 ≤ s4 := Nat.le_trans Z64 szs4
  have ne66 : a1 ≠ s4 := Nat.ne_of_lt (Nat.lt_of_lt_of_le f51.lt szs4)
  have ne67 : s1 ≠ s4 := Nat.ne_of_lt (Nat.lt_of_lt_of_le f56.lt szs4)
  have ne68 : b1 ≠ s4 := Nat.ne_of_lt (Nat.lt_of_lt_of_le f59.lt szs4)
  have ne69 : s2 ≠ s4 := Nat.ne_of_lt (Nat.lt_of_lt_of_le f60.lt szs4)
  have ne70 : b2 ≠ s4 := Nat.ne_of_lt (Nat.lt_of_lt_of_le f63.lt szs4)
  have ne71 : s3 ≠ s4 := Nat.ne_of_lt (Nat.lt_of_lt_of_le Es3.lt szs4)
  have ne72 : b3 ≠ s4 := Nat.ne_of_lt (Nat.lt_of_lt_of_le Vb3.lt szs4)
  have sf73 := CHr.safe hr65 f51.lt sf47
  have HR74 := CHr.trans HR48 (hr65)
  have HC75 := hr65.1
  have O76 := O50.keep Kq65 all0
  have N65 := Fr.app N41 Nq65
  have hk : T65.heap.size ≤ T65.heap.size := Nat.le_refl _
  have f77 := f51.keep Kq65
  have f78 := f52.keep Kq65 nin0
  have f79 := f53.keep Kq65 nin0
  have f80 := f54.keep Kq65 nin0
  have f81 := f55.keep Kq65 nin0
  have f82 := f56.keep Kq65
  have f83 := f57.keep Kq65 nin0
  have f84 := f58.keep Kq65 nin0
  have f85 := f59.keep Kq65 nin0
  have f86 := f60.keep Kq65
  have f87 := f61.keep Kq65 nin0
  have f88 := f62.keep Kq65 nin0
  have f89 := f63.keep Kq65 nin0
  have f90 := Es3.keep Kq65
  have f91 := Fc3.keep Kq65 nin0
  have f92 := Fv3.keep Kq65 nin0
  have f93 := Vb3.keep Kq65 nin0
  have Z94 : n0 ≤ T65.heap.size := Nat.le_trans Z64 Kq65.1
  show Ends p.tables e below (T65.setTop (mkF m 20 #[.val (.int p0), .val (.int p1), .val (.int p2), .val (.int p3), .val (.int p4), .val (.int p5), .unset, .unset, .unset, .unset, .unset, .unset, .unset, .unset] [(.ref s4), (.ref s3), (.ref s2), (.ref s1), (.ref a1), (.ref a1)])) _
  have neb1 : a1 ≠ b1 := Exa.neArv f77 f85 (hw _ (List.mem_of_getElem? (i := 1) rfl))
  have neb2 : a1 ≠ b2 := Exa.neArv f77 f89 (hw _ (List.mem_of_getElem? (i := 1) rfl))
  have neb3 : a1 ≠ b3 := Exa.neArv f77 f93 (hw _ (List.mem_of_getElem? (i := 1) rfl))
  have neb4 : a1 ≠ b4 := Exa.neArv f77 Vb4 (hw _ (List.mem_of_getElem? (i := 1) rfl))
  refine s_callIH (pc' := 23) (W := 1) X65 hx hZ hS hk (own_EW hw) HC75  hown rfl (hw _ (List.mem_of_getElem? (i := 29) rfl)) (hw _ (List.mem_of_getElem? (i := 30) rfl)) (hw _ (List.mem_of_getElem? (i := 2) rfl)) (hw _ (List.mem_of_getElem? (i := 31) rfl)) (by decide) rfl (own_ai l Z a0 hw [] a1 s1 s2 s3 s4 T65.heap n0 Z94 f78 f79 f80 f81 f77 g_a1 f82 f86 f90 Es4) own_safe0 a1 (by rw [hml]; rfl) [(.ref s1), (.ref s2), (.ref s3), (.ref s4)] [(.ref a1)] rfl (lenOf own_pd9 rfl) rfl (Nat.le_of_eq rfl) (by decide) (by decide) (by decide) (by decide) rfl (hb hby at_20) fun T95 v95 Lc95 X95 hS hZ hown hr95 hQ95 => ?_
  obtain ⟨rfl, Nq95, Kq95, Ea1, FmerchantIda1, FrequestIda1, Fmethoda1, Fpatha1⟩ := hQ95
  have sf96 := CHr.safe hr95 f77.lt sf73
  have HR97 := CHr.trans HR74 (hr95)
  have HC98 := hr95.1
  have O99 := O76.keep Kq95 (allS g_a1 all0)
  have N95 := Fr.app N65 Nq95
  have hk : T95.heap.size ≤ T95.heap.size := Nat.le_refl _
  have f100 := f77.keep Kq95
  have f101 := f82.keep Kq95
  have f102 := f83.keep Kq95 (ninS (Ne.symm ne12) nin0)
  have f103 := f84.keep Kq95 (ninS (Ne.symm ne12) nin0)
  have f104 := f85.keep Kq95 (ninS (Ne.symm neb1) nin0)
  have f105 := f86.keep Kq95
  have f106 := f87.keep Kq95 (ninS (Ne.symm ne24) nin0)
  have f107 := f88.keep Kq95 (ninS (Ne.symm ne24) nin0)
  have f108 := f89.keep Kq95 (ninS (Ne.symm neb2) nin0)
  have f109 := f90.keep Kq95
  have f110 := f91.keep Kq95 (ninS (Ne.symm ne42) nin0)
  have f111 := f92.keep Kq95 (ninS (Ne.symm ne42) nin0)
  have f112 := f93.keep Kq95 (ninS (Ne.symm neb3) nin0)
  have f113 := Es4.keep Kq95
  have f114 := Fc4.keep Kq95 (ninS (Ne.symm ne66) nin0)
  have f115 := Fv4.keep Kq95 (ninS (Ne.symm ne66) nin0)
  have f116 := Vb4.keep Kq95 (ninS (Ne.symm neb4) nin0)
  have Z117 : n0 ≤ T95.heap.size := Nat.le_trans Z94 Kq95.1
  show Ends p.tables e below (T95.setTop (mkF m 23 #[.val (.int p0), .val (.int p1), .val (.int p2), .val (.int p3), .val (.int p4), .val (.int p5), .unset, .unset, .unset, .unset, .unset, .unset, .unset, .unset] [(.ref a1)])) _
  refine s_astore (pc' := 25) X95.here hx (l' := #[.val (.int p0), .val (.int p1), .val (.int p2), .val (.int p3), .val (.int p4), .val (.int p5), .val (.ref a1), .unset, .unset, .unset, .unset, .unset, .unset, .unset]) (hb hby at_23) rfl rfl rfl ?_
  refine s_iload (pc' := 27) X95.here hx (hb hby at_25) rfl rfl ?_
  refine s_iconst (pc' := 28) X95.here hx (v := (4 : Int32)) (hb hby at_27) rfl rfl ?_
  refine s_iushr (pc' := 29) X95.here hx (hb hby at_28) rfl ?_
  refine s_iconst (pc' := 30) X95.here hx (v := (3 : Int32)) (hb hby at_29) rfl rfl ?_
  refine s_iand (pc' := 31) X95.here hx (hb hby at_30) rfl ?_
  refine s_istore (pc' := 33) X95.here hx (l' := #[.val (.int p0), .val (.int p1), .val (.int p2), .val (.int p3), .val (.int p4), .val (.int p5), .val (.ref a1), .val (.int (((p4.toUInt32 >>> ((4 : Int32) &&& 31).toUInt32).toInt32) &&& (3 : Int32))), .unset, .unset, .unset, .unset, .unset, .unset]) (hb hby at_31) rfl rfl ?_
  obtain ⟨kd, hkd⟩ : ∃ z : Int32, z = (((p4.toUInt32 >>> ((4 : Int32) &&& 31).toUInt32).toInt32) &&& (3 : Int32)) := ⟨_, rfl⟩
  rw [← hkd]
  refine s_iload (pc' := 35) X95.here hx (hb hby at_33) rfl rfl ?_
  refine s_iconst (pc' := 36) X95.here hx (v := (1 : Int32)) (hb hby at_35) rfl rfl ?_
  by_cases hk1_ : kd = (1 : Int32)
  · refine s_icmpNo (pc' := 39) X95.here hx (hb hby at_36) (teq hk1_).2 rfl ?_
    refine s_aload (pc' := 41) X95.here hx (hb hby at_39) rfl rfl rfl ?_
    refine s_aconstNull (pc' := 42) X95.here hx (hb hby at_41) rfl ?_
    refine s_callV (pc' := 45) (W := 0) X95 hx hZ  hown (hw _ (List.mem_of_getElem? (i := 53) rfl)) (hw _ (List.mem_of_getElem? (i := 54) rfl)) (hw _ (List.mem_of_getElem? (i := 2) rfl)) (hw _ (List.mem_of_getElem? (i := 57) rfl)) (hw _ (List.mem_of_getElem? (i := 56) rfl)) (hw _ (List.mem_of_getElem? (i := 55) rfl)) (by decide) rfl Ea1 (own_eqN l Z a0 hw [] a1 T95.heap n0 Z117 ) (by rw [hml]; rfl) [.null] [] rfl (lenOf own_pd7 rfl) rfl (Nat.le_of_eq rfl) (by decide) (by decide) (by decide) (by decide) rfl (hb hby at_42) fun T118 v118 Lc118 X118 hQ118 => ?_
    obtain ⟨rfl, Nq118, eh118⟩ := hQ118
    have N118 := Fr.app N95 Nq118
    show Ends p.tables e below (T118.setTop (mkF m 45 #[.val (.int p0), .val (.int p1), .val (.int p2), .val (.int p3), .val (.int p4), .val (.int p5), .val (.ref a1), .val (.int kd), .unset, .unset, .unset, .unset, .unset, .unset] [(.int (0 : Int32))])) _
    have hk119 : (0 : Int32) = (0 : Int32) := rfl
    refine s_ifNo (pc' := 48) X118.here hx (hb hby at_45) ((if0 _ _).trans (teq hk119).2) rfl ?_
    refine s_iconst (pc' := 49) X118.here hx (v := (1 : Int32)) (hb hby at_48) rfl rfl ?_
    refine s_goto (pc' := 53) X118.here hx (hb hby at_49) (by decide) (by decide) ?_
    obtain ⟨fs, hr, hrun, hended, hRW⟩ := X118.leaveW hS (show _ ≤ T118.heap.size from by rw [eh118]; exact hk) (v := some (.int (1 : Int32))) (fun h => by rw [Bd.returns] at h; cases h)
    have hfin : CHr Z consts_1 s.vm s.heap T118.vm T118.heap := by rw [hh, eh118]; exact CHr.trans HR97 (CHv.at X118 hZ (own_EW hw) HC98)
    refine ⟨_, _, retN X118 hx (t := .boolean) Bd.returns (by simp) (hb hby at_53) hr, hrun, hended, _, _, rfl, ?_, hfin, own_rwm hRW (by decide) (by decide)⟩
    show own_rm0_Q Z p0 p1 p2 p3 p4 p5 cs h0 n0 _ T118.heap _
    rw [eh118]
    exact ⟨rfl, N118⟩
  · refine s_icmpYes (pc' := 54) X95.here hx (hb hby at_36) (feq hk1_).2 (by decide) (by decide) ?_
    refine s_iload (pc' := 56) X95.here hx (hb hby at_54) rfl rfl ?_
    refine s_iconst (pc' := 57) X95.here hx (v := (2 : Int32)) (hb hby at_56) rfl rfl ?_
    by_cases hk2_ : kd = (2 : Int32)
    · refine s_icmpNo (pc' := 60) X95.here hx (hb hby at_57) (teq hk2_).2 rfl ?_
      refine s_iloadN (pc' := 61) X95.here hx (hb hby at_60) rfl rfl ?_
      refine s_callSH (pc' := 64) (W := 0) X95 hx hZ hS hk (own_EW hw) HC98  hown (hw _ (List.mem_of_getElem? (i := 3) rfl)) (hw _ (List.mem_of_getElem? (i := 4) rfl)) (hw _ (List.mem_of_getElem? (i := 5) rfl)) (hw _ (List.mem_of_getElem? (i := 6) rfl)) (by decide) rfl (own_str l Z a0 hw [] p0 cs T95.heap n0 Z117 O99 S_cs hcs) own_safe0 (by rw [hml]; rfl) [(.int p0)] [] rfl (lenOf own_pd8 rfl) rfl (Nat.le_of_eq rfl) (by decide) (by decide) (by decide) (by decide) rfl (hb hby at_61) fun T120 v120 Lc120 X120 hS hZ hown hr120 hQ120 => ?_
      obtain ⟨s5, b5, k5, rfl, Nq120, Kq120, szs5, Es5, Fc5, Fv5, Vb5⟩ := hQ120
      have g_s5 : n0 ≤ s5 := Nat.le_trans Z117 szs5
      have ne121 : a1 ≠ s5 := Nat.ne_of_lt (Nat.lt_of_lt_of_le Ea1.lt szs5)
      have ne122 : s1 ≠ s5 := Nat.ne_of_lt (Nat.lt_of_lt_of_le f101.lt szs5)
      have ne123 : b1 ≠ s5 := Nat.ne_of_lt (Nat.lt_of_lt_of_le f104.lt szs5)
      have ne124 : s2 ≠ s5 := Nat.ne_of_lt (Nat.lt_of_lt_of_le f105.lt szs5)
      have ne125 : b2 ≠ s5 := Nat.ne_of_lt (Nat.lt_of_lt_of_le f108.lt szs5)
      have ne126 : s3 ≠ s5 := Nat.ne_of_lt (Nat.lt_of_lt_of_le f109.lt szs5)
      have ne127 : b3 ≠ s5 := Nat.ne_of_lt (Nat.lt_of_lt_of_le f112.lt szs5)
      have ne128 : s4 ≠ s5 := Nat.ne_of_lt (Nat.lt_of_lt_of_le f113.lt szs5)
      have ne129 : b4 ≠ s5 := Nat.ne_of_lt (Nat.lt_of_lt_of_le f116.lt szs5)
      have sf130 := CHr.safe hr120 Ea1.lt sf96
      have HR131 := CHr.trans HR97 (hr120)
      have HC132 := hr120.1
      have O133 := O99.keep Kq120 all0
      have N120 := Fr.app N95 Nq120
      have hk : T120.heap.size ≤ T120.heap.size := Nat.le_refl _
      have f134 := Ea1.keep Kq120
      have f135 := f101.keep Kq120
      have f136 := f102.keep Kq120 nin0
      have f137 := f103.keep Kq120 nin0
      have f138 := f104.keep Kq120 nin0
      have f139 := f105.keep Kq120
      have f140 := f106.keep Kq120 nin0
      have f141 := f107.keep Kq120 nin0
      have f142 := f108.keep Kq120 nin0
      have f143 := f109.keep Kq120
      have f144 := f110.keep Kq120 nin0
      have f145 := f111.keep Kq120 nin0
      have f146 := f112.keep Kq120 nin0
      have f147 := f113.keep Kq120
      have f148 := f114.keep Kq120 nin0
      have f149 := f115.keep Kq120 nin0
      have f150 := f116.keep Kq120 nin0
      have f151 := FmerchantIda1.keep Kq120 nin0
      have f152 := FrequestIda1.keep Kq120 nin0
      have f153 := Fmethoda1.keep Kq120 nin0
      have f154 := Fpatha1.keep Kq120 nin0
      have Z155 : n0 ≤ T120.heap.size := Nat.le_trans Z117 Kq120.1
      show Ends p.tables e below (T120.setTop (mkF m 64 #[.val (.int p0), .val (.int p1), .val (.int p2), .val (.int p3), .val (.int p4), .val (.int p5), .val (.ref a1), .val (.int kd), .unset, .unset, .unset, .unset, .unset, .unset] [(.ref s5)])) _
      refine s_astore (pc' := 66) X120.here hx (l' := #[.val (.int p0), .val (.int p1), .val (.int p2), .val (.int p3), .val (.int p4), .val (.int p5), .val (.ref a1), .val (.int kd), .val (.ref s5), .unset, .unset, .unset, .unset, .unset]) (hb hby at_64) rfl rfl rfl ?_
      refine s_aload (pc' := 68) X120.here hx (hb hby at_66) rfl rfl rfl ?_
      refine s_aload (pc' := 70) X120.here hx (hb hby at_68) rfl rfl rfl ?_
      refine s_callV (pc' := 73) (W := 0) X120 hx hZ  hown (hw _ (List.mem_of_getElem? (i := 53) rfl)) (hw _ (List.mem_of_getElem? (i := 54) rfl)) (hw _ (List.mem_of_getElem? (i := 2) rfl)) (hw _ (List.mem_of_getElem? (i := 57) rfl)) (hw _ (List.mem_of_getElem? (i := 56) rfl)) (hw _ (List.mem_of_getElem? (i := 55) rfl)) (by decide) rfl f134 (own_eqS l Z a0 hw [] a1 s5 T120.heap n0 Z155 Es5) (by rw [hml]; rfl) [(.ref s5)] [] rfl (lenOf own_pd7 rfl) rfl (Nat.le_of_eq rfl) (by decide) (by decide) (by decide) (by decide) rfl (hb hby at_70) fun T156 v156 Lc156 X156 hQ156 => ?_
      obtain ⟨rfl, Nq156, eh156⟩ := hQ156
      have N156 := Fr.app N120 Nq156
      show Ends p.tables e below (T156.setTop (mkF m 73 #[.val (.int p0), .val (.int p1), .val (.int p2), .val (.int p3), .val (.int p4), .val (.int p5), .val (.ref a1), .val (.int kd), .val (.ref s5), .unset, .unset, .unset, .unset, .unset] [(.int (0 : Int32))])) _
      have hk157 : (0 : Int32) = (0 : Int32) := rfl
      refine s_ifNo (pc' := 76) X156.here hx (hb hby at_73) ((if0 _ _).trans (teq hk157).2) rfl ?_
      refine s_iconst (pc' := 77) X156.here hx (v := (1 : Int32)) (hb hby at_76) rfl rfl ?_
      refine s_goto (pc' := 81) X156.here hx (hb hby at_77) (by decide) (by decide) ?_
      obtain ⟨fs, hr, hrun, hended, hRW⟩ := X156.leaveW hS (show _ ≤ T156.heap.size from by rw [eh156]; exact hk) (v := some (.int (1 : Int32))) (fun h => by rw [Bd.returns] at h; cases h)
      have hfin : CHr Z consts_1 s.vm s.heap T156.vm T156.heap := by rw [hh, eh156]; exact CHr.trans HR131 (CHv.at X156 hZ (own_EW hw) HC132)
      refine ⟨_, _, retN X156 hx (t := .boolean) Bd.returns (by simp) (hb hby at_81) hr, hrun, hended, _, _, rfl, ?_, hfin, own_rwm hRW (by decide) (by decide)⟩
      show own_rm0_Q Z p0 p1 p2 p3 p4 p5 cs h0 n0 _ T156.heap _
      rw [eh156]
      exact ⟨rfl, N156⟩
    · refine s_icmpYes (pc' := 82) X95.here hx (hb hby at_57) (feq hk2_).2 (by decide) (by decide) ?_
      refine s_iload (pc' := 84) X95.here hx (hb hby at_82) rfl rfl ?_
      refine s_iconst (pc' := 85) X95.here hx (v := (3 : Int32)) (hb hby at_84) rfl rfl ?_
      by_cases hk3_ : kd = (3 : Int32)
      · refine s_icmpNo (pc' := 88) X95.here hx (hb hby at_85) (teq hk3_).2 rfl ?_
        refine s_aload (pc' := 90) X95.here hx (hb hby at_88) rfl rfl rfl ?_
        refine s_aload (pc' := 92) X95.here hx (hb hby at_90) rfl rfl rfl ?_
        refine s_callV (pc' := 95) (W := 0) X95 hx hZ  hown (hw _ (List.mem_of_getElem? (i := 53) rfl)) (hw _ (List.mem_of_getElem? (i := 54) rfl)) (hw _ (List.mem_of_getElem? (i := 2) rfl)) (hw _ (List.mem_of_getElem? (i := 57) rfl)) (hw _ (List.mem_of_getElem? (i := 56) rfl)) (hw _ (List.mem_of_getElem? (i := 55) rfl)) (by decide) rfl Ea1 (own_eqA l Z a0 hw [] a1 a1 cs s1 b1 k1 (own_len p0) (own_tx p0) s2 b2 k2 (own_len p1) (own_tx p1) s3 b3 k3 (own_len p2) (own_tx p2) s4 b4 k4 (own_len p3) (own_tx p3) s1 b1 k1 (own_len p0) (own_tx p0) s2 b2 k2 (own_len p1) (own_tx p1) s3 b3 k3 (own_len p2) (own_tx p2) s4 b4 k4 (own_len p3) (own_tx p3) (1 : Int32) (1 : Int32) (1 : Int32) (1 : Int32) T95.heap n0 Z117 O99 S_cs hcs Ea1 FmerchantIda1 FrequestIda1 Fmethoda1 Fpatha1 FmerchantIda1 FrequestIda1 Fmethoda1 Fpatha1 f101 f102 f103 f104 f105 f106 f107 f108 f109 f110 f111 f112 f113 f114 f115 f116 f101 f102 f103 f104 f105 f106 f107 f108 f109 f110 f111 f112 f113 f114 f115 f116 (Or.inr rfl) ⟨fun _ => ⟨rfl, fun _ _ => rfl⟩, fun _ => rfl⟩ (Or.inr rfl) ⟨fun _ => ⟨rfl, fun _ _ => rfl⟩, fun _ => rfl⟩ (Or.inr rfl) ⟨fun _ => ⟨rfl, fun _ _ => rfl⟩, fun _ => rfl⟩ (Or.inr rfl) ⟨fun _ => ⟨rfl, fun _ _ => rfl⟩, fun _ => rfl⟩) (by rw [hml]; rfl) [(.ref a1)] [] rfl (lenOf own_pd7 rfl) rfl (Nat.le_of_eq rfl) (by decide) (by decide) (by decide) (by decide) rfl (hb hby at_92) fun T158 v158 Lc158 X158 hQ158 => ?_
        obtain ⟨rfl, Nq158, eh158⟩ := hQ158
        have N158 := Fr.app N95 Nq158
        show Ends p.tables e below (T158.setTop (mkF m 95 #[.val (.int p0), .val (.int p1), .val (.int p2), .val (.int p3), .val (.int p4), .val (.int p5), .val (.ref a1), .val (.int kd), .unset, .unset, .unset, .unset, .unset, .unset] [(.int (own_and (1 : Int32) (1 : Int32) (1 : Int32) (1 : Int32)))])) _
        rw [show (own_and (1 : Int32) (1 : Int32) (1 : Int32) (1 : Int32)) = (1 : Int32) from by decide]
        obtain ⟨fs, hr, hrun, hended, hRW⟩ := X158.leaveW hS (show _ ≤ T158.heap.size from by rw [eh158]; exact hk) (v := some (.int (1 : Int32))) (fun h => by rw [Bd.returns] at h; cases h)
        have hfin : CHr Z consts_1 s.vm s.heap T158.vm T158.heap := by rw [hh, eh158]; exact CHr.trans HR97 (CHv.at X158 hZ (own_EW hw) HC98)
        refine ⟨_, _, retN X158 hx (t := .boolean) Bd.returns (by simp) (hb hby at_95) hr, hrun, hended, _, _, rfl, ?_, hfin, own_rwm hRW (by decide) (by decide)⟩
        show own_rm0_Q Z p0 p1 p2 p3 p4 p5 cs h0 n0 _ T158.heap _
        rw [eh158]
        exact ⟨rfl, N158⟩
      · refine s_icmpYes (pc' := 96) X95.here hx (hb hby at_85) (feq hk3_).2 (by decide) (by decide) ?_
        refine s_iload (pc' := 98) X95.here hx (hb hby at_96) rfl rfl ?_
        refine s_iconst (pc' := 99) X95.here hx (v := (1 : Int32)) (hb hby at_98) rfl rfl ?_
        refine s_iand (pc' := 100) X95.here hx (hb hby at_99) rfl ?_
        refine own_join (α := Int32) (fun u0 => T95.setTop (mkF m 113 #[.val (.int p0), .val (.int p1), .val (.int p2), .val (.int p3), .val (.int p4), .val (.int p5), .val (.ref a1), .val (.int kd), .val (.int u0), .unset, .unset, .unset, .unset, .unset] [])) (fun u0 => True) (fun key => ?_) ?_
        · by_cases hb0 : (p4 &&& (1 : Int32)) = (0 : Int32)
          · refine s_ifYes (pc' := 110) X95.here hx (hb hby at_100) ((if0 _ _).trans (teq hb0).1) (by decide) (by decide) ?_
            refine s_iloadN (pc' := 111) X95.here hx (hb hby at_110) rfl rfl ?_
            refine s_istore (pc' := 113) X95.here hx (l' := #[.val (.int p0), .val (.int p1), .val (.int p2), .val (.int p3), .val (.int p4), .val (.int p5), .val (.ref a1), .val (.int kd), .val (.int p0), .unset, .unset, .unset, .unset, .unset]) (hb hby at_111) rfl rfl ?_
            exact key (p0) trivial
          · refine s_ifNo (pc' := 103) X95.here hx (hb hby at_100) ((if0 _ _).trans (feq hb0).1) rfl ?_
            refine s_iloadN (pc' := 104) X95.here hx (hb hby at_103) rfl rfl ?_
            refine s_iload (pc' := 106) X95.here hx (hb hby at_104) rfl rfl ?_
            refine s_ixor (pc' := 107) X95.here hx (hb hby at_106) rfl ?_
            refine s_goto (pc' := 111) X95.here hx (hb hby at_107) (by decide) (by decide) ?_
            refine s_istore (pc' := 113) X95.here hx (l' := #[.val (.int p0), .val (.int p1), .val (.int p2), .val (.int p3), .val (.int p4), .val (.int p5), .val (.ref a1), .val (.int kd), .val (.int (p0 ^^^ p5)), .unset, .unset, .unset, .unset, .unset]) (hb hby at_111) rfl rfl ?_
            exact key ((p0 ^^^ p5)) trivial
        · rintro u0 hT0
          try dsimp only at hT0
          try dsimp only
          show Ends p.tables e below (T95.setTop (mkF m 113 #[.val (.int p0), .val (.int p1), .val (.int p2), .val (.int p3), .val (.int p4), .val (.int p5), .val (.ref a1), .val (.int kd), .val (.int u0), .unset, .unset, .unset, .unset, .unset] [])) _
          refine s_iload (pc' := 115) X95.here hx (hb hby at_113) rfl rfl ?_
          refine s_iconst (pc' := 116) X95.here hx (v := (2 : Int32)) (hb hby at_115) rfl rfl ?_
          refine s_iand (pc' := 117) X95.here hx (hb hby at_116) rfl ?_
          refine own_join (α := Int32) (fun u1 => T95.setTop (mkF m 130 #[.val (.int p0), .val (.int p1), .val (.int p2), .val (.int p3), .val (.int p4), .val (.int p5), .val (.ref a1), .val (.int kd), .val (.int u0), .val (.int u1), .unset, .unset, .unset, .unset] [])) (fun u1 => True) (fun key => ?_) ?_
          · by_cases hb1 : (p4 &&& (2 : Int32)) = (0 : Int32)
            · refine s_ifYes (pc' := 127) X95.here hx (hb hby at_117) ((if0 _ _).trans (teq hb1).1) (by decide) (by decide) ?_
              refine s_iloadN (pc' := 128) X95.here hx (hb hby at_127) rfl rfl ?_
              refine s_istore (pc' := 130) X95.here hx (l' := #[.val (.int p0), .val (.int p1), .val (.int p2), .val (.int p3), .val (.int p4), .val (.int p5), .val (.ref a1), .val (.int kd), .val (.int u0), .val (.int p1), .unset, .unset, .unset, .unset]) (hb hby at_128) rfl rfl ?_
              exact key (p1) trivial
            · refine s_ifNo (pc' := 120) X95.here hx (hb hby at_117) ((if0 _ _).trans (feq hb1).1) rfl ?_
              refine s_iloadN (pc' := 121) X95.here hx (hb hby at_120) rfl rfl ?_
              refine s_iload (pc' := 123) X95.here hx (hb hby at_121) rfl rfl ?_
              refine s_ixor (pc' := 124) X95.here hx (hb hby at_123) rfl ?_
              refine s_goto (pc' := 128) X95.here hx (hb hby at_124) (by decide) (by decide) ?_
              refine s_istore (pc' := 130) X95.here hx (l' := #[.val (.int p0), .val (.int p1), .val (.int p2), .val (.int p3), .val (.int p4), .val (.int p5), .val (.ref a1), .val (.int kd), .val (.int u0), .val (.int (p1 ^^^ p5)), .unset, .unset, .unset, .unset]) (hb hby at_128) rfl rfl ?_
              exact key ((p1 ^^^ p5)) trivial
          · rintro u1 hT1
            try dsimp only at hT1
            try dsimp only
            show Ends p.tables e below (T95.setTop (mkF m 130 #[.val (.int p0), .val (.int p1), .val (.int p2), .val (.int p3), .val (.int p4), .val (.int p5), .val (.ref a1), .val (.int kd), .val (.int u0), .val (.int u1), .unset, .unset, .unset, .unset] [])) _
            refine s_iload (pc' := 132) X95.here hx (hb hby at_130) rfl rfl ?_
            refine s_iconst (pc' := 133) X95.here hx (v := (4 : Int32)) (hb hby at_132) rfl rfl ?_
            refine s_iand (pc' := 134) X95.here hx (hb hby at_133) rfl ?_
            refine own_join (α := Int32) (fun u2 => T95.setTop (mkF m 147 #[.val (.int p0), .val (.int p1), .val (.int p2), .val (.int p3), .val (.int p4), .val (.int p5), .val (.ref a1), .val (.int kd), .val (.int u0), .val (.int u1), .val (.int u2), .unset, .unset, .unset] [])) (fun u2 => True) (fun key => ?_) ?_
            · by_cases hb2 : (p4 &&& (4 : Int32)) = (0 : Int32)
              · refine s_ifYes (pc' := 144) X95.here hx (hb hby at_134) ((if0 _ _).trans (teq hb2).1) (by decide) (by decide) ?_
                refine s_iloadN (pc' := 145) X95.here hx (hb hby at_144) rfl rfl ?_
                refine s_istore (pc' := 147) X95.here hx (l' := #[.val (.int p0), .val (.int p1), .val (.int p2), .val (.int p3), .val (.int p4), .val (.int p5), .val (.ref a1), .val (.int kd), .val (.int u0), .val (.int u1), .val (.int p2), .unset, .unset, .unset]) (hb hby at_145) rfl rfl ?_
                exact key (p2) trivial
              · refine s_ifNo (pc' := 137) X95.here hx (hb hby at_134) ((if0 _ _).trans (feq hb2).1) rfl ?_
                refine s_iloadN (pc' := 138) X95.here hx (hb hby at_137) rfl rfl ?_
                refine s_iload (pc' := 140) X95.here hx (hb hby at_138) rfl rfl ?_
                refine s_ixor (pc' := 141) X95.here hx (hb hby at_140) rfl ?_
                refine s_goto (pc' := 145) X95.here hx (hb hby at_141) (by decide) (by decide) ?_
                refine s_istore (pc' := 147) X95.here hx (l' := #[.val (.int p0), .val (.int p1), .val (.int p2), .val (.int p3), .val (.int p4), .val (.int p5), .val (.ref a1), .val (.int kd), .val (.int u0), .val (.int u1), .val (.int (p2 ^^^ p5)), .unset, .unset, .unset]) (hb hby at_145) rfl rfl ?_
                exact key ((p2 ^^^ p5)) trivial
            · rintro u2 hT2
              try dsimp only at hT2
              try dsimp only
              show Ends p.tables e below (T95.setTop (mkF m 147 #[.val (.int p0), .val (.int p1), .val (.int p2), .val (.int p3), .val (.int p4), .val (.int p5), .val (.ref a1), .val (.int kd), .val (.int u0), .val (.int u1), .val (.int u2), .unset, .unset, .unset] [])) _
              refine s_iload (pc' := 149) X95.here hx (hb hby at_147) rfl rfl ?_
              refine s_bipush (pc' := 151) X95.here hx (v := (8 : Int32)) (hb hby at_149) rfl rfl ?_
              refine s_iand (pc' := 152) X95.here hx (hb hby at_151) rfl ?_
              refine own_join (α := Int32) (fun u3 => T95.setTop (mkF m 165 #[.val (.int p0), .val (.int p1), .val (.int p2), .val (.int p3), .val (.int p4), .val (.int p5), .val (.ref a1), .val (.int kd), .val (.int u0), .val (.int u1), .val (.int u2), .val (.int u3), .unset, .unset] [])) (fun u3 => True) (fun key => ?_) ?_
              · by_cases hb3 : (p4 &&& (8 : Int32)) = (0 : Int32)
                · refine s_ifYes (pc' := 162) X95.here hx (hb hby at_152) ((if0 _ _).trans (teq hb3).1) (by decide) (by decide) ?_
                  refine s_iloadN (pc' := 163) X95.here hx (hb hby at_162) rfl rfl ?_
                  refine s_istore (pc' := 165) X95.here hx (l' := #[.val (.int p0), .val (.int p1), .val (.int p2), .val (.int p3), .val (.int p4), .val (.int p5), .val (.ref a1), .val (.int kd), .val (.int u0), .val (.int u1), .val (.int u2), .val (.int p3), .unset, .unset]) (hb hby at_163) rfl rfl ?_
                  exact key (p3) trivial
                · refine s_ifNo (pc' := 155) X95.here hx (hb hby at_152) ((if0 _ _).trans (feq hb3).1) rfl ?_
                  refine s_iloadN (pc' := 156) X95.here hx (hb hby at_155) rfl rfl ?_
                  refine s_iload (pc' := 158) X95.here hx (hb hby at_156) rfl rfl ?_
                  refine s_ixor (pc' := 159) X95.here hx (hb hby at_158) rfl ?_
                  refine s_goto (pc' := 163) X95.here hx (hb hby at_159) (by decide) (by decide) ?_
                  refine s_istore (pc' := 165) X95.here hx (l' := #[.val (.int p0), .val (.int p1), .val (.int p2), .val (.int p3), .val (.int p4), .val (.int p5), .val (.ref a1), .val (.int kd), .val (.int u0), .val (.int u1), .val (.int u2), .val (.int (p3 ^^^ p5)), .unset, .unset]) (hb hby at_163) rfl rfl ?_
                  exact key ((p3 ^^^ p5)) trivial
              · rintro u3 hT3
                try dsimp only at hT3
                try dsimp only
                show Ends p.tables e below (T95.setTop (mkF m 165 #[.val (.int p0), .val (.int p1), .val (.int p2), .val (.int p3), .val (.int p4), .val (.int p5), .val (.ref a1), .val (.int kd), .val (.int u0), .val (.int u1), .val (.int u2), .val (.int u3), .unset, .unset] [])) _
                refine s_newO (pc' := 168) X95 hx hZ hown (hw _ (List.mem_of_getElem? (i := 0) rfl)) (hw _ (List.mem_of_getElem? (i := 1) rfl)) (hw _ (List.mem_of_getElem? (i := 2) rfl)) rfl (hb hby at_165) (by decide) (by decide) rfl fun T159 hp159 X159 e159 E159 a2 gq159 A159 D159 => ?_
                have g_a2 : n0 ≤ a2 := Nat.le_trans Z117 (Nat.le_of_eq gq159.symm)
                have ne160 : a1 ≠ a2 := Nat.ne_of_lt (Nat.lt_of_lt_of_le Ea1.lt (Nat.le_of_eq gq159.symm))
                have ne161 : s1 ≠ a2 := Nat.ne_of_lt (Nat.lt_of_lt_of_le f101.lt (Nat.le_of_eq gq159.symm))
                have ne162 : b1 ≠ a2 := Nat.ne_of_lt (Nat.lt_of_lt_of_le f104.lt (Nat.le_of_eq gq159.symm))
                have ne163 : s2 ≠ a2 := Nat.ne_of_lt (Nat.lt_of_lt_of_le f105.lt (Nat.le_of_eq gq159.symm))
                have ne164 : b2 ≠ a2 := Nat.ne_of_lt (Nat.lt_of_lt_of_le f108.lt (Nat.le_of_eq gq159.symm))
                have ne165 : s3 ≠ a2 := Nat.ne_of_lt (Nat.lt_of_lt_of_le f109.lt (Nat.le_of_eq gq159.symm))
                have ne166 : b3 ≠ a2 := Nat.ne_of_lt (Nat.lt_of_lt_of_le f112.lt (Nat.le_of_eq gq159.symm))
                have ne167 : s4 ≠ a2 := Nat.ne_of_lt (Nat.lt_of_lt_of_le f113.lt (Nat.le_of_eq gq159.symm))
                have ne168 : b4 ≠ a2 := Nat.ne_of_lt (Nat.lt_of_lt_of_le f116.lt (Nat.le_of_eq gq159.symm))
                have sf169 := Safe.ext E159 HC98 (Safe.new (Nat.le_of_eq gq159.symm))
                have sf170 := Safe.ext E159 HC98 sf96
                have HR171 := CHr.trans HR97 (CHr.ext E159 HC98)
                have HC172 := CHv.ext E159 HC98
                have O173 := O99.ext E159
                have f174 := Ea1.ext E159
                have f175 := f101.ext E159
                have f176 := f102.ext E159
                have f177 := f103.ext E159
                have f178 := f104.ext E159
                have f179 := f105.ext E159
                have f180 := f106.ext E159
                have f181 := f107.ext E159
                have f182 := f108.ext E159
                have f183 := f109.ext E159
                have f184 := f110.ext E159
                have f185 := f111.ext E159
                have f186 := f112.ext E159
                have f187 := f113.ext E159
                have f188 := f114.ext E159
                have f189 := f115.ext E159
                have f190 := f116.ext E159
                have f191 := FmerchantIda1.ext E159
                have f192 := FrequestIda1.ext E159
                have f193 := Fmethoda1.ext E159
                have f194 := Fpatha1.ext E159
                replace hk := Nat.le_trans hk E159.1
                have Z195 : n0 ≤ hp159.size := Nat.le_trans Z117 E159.1
                have F196 : Fld Z hp159 a2 "com/example/prudent_till/prudenttill/model/RequestKey" "merchantId" "Ljava/lang/String;" .null := D159 (Or.inr (hw _ (List.mem_of_getElem? (i := 40) rfl))) (ty := (.object "java/lang/String")) (by decide)
                have F197 : Fld Z hp159 a2 "com/example/prudent_till/prudenttill/model/RequestKey" "requestId" "Ljava/lang/String;" .null := D159 (Or.inr (hw _ (List.mem_of_getElem? (i := 43) rfl))) (ty := (.object "java/lang/String")) (by decide)
                have F198 : Fld Z hp159 a2 "com/example/prudent_till/prudenttill/model/RequestKey" "method" "Ljava/lang/String;" .null := D159 (Or.inr (hw _ (List.mem_of_getElem? (i := 46) rfl))) (ty := (.object "java/lang/String")) (by decide)
                have F199 : Fld Z hp159 a2 "com/example/prudent_till/prudenttill/model/RequestKey" "path" "Ljava/lang/String;" .null := D159 (Or.inr (hw _ (List.mem_of_getElem? (i := 49) rfl))) (ty := (.object "java/lang/String")) (by decide)
                refine s_dup (pc' := 169) X159.here hx (hb hby at_168) rfl rfl ?_
                refine s_iload (pc' := 171) X159.here hx (hb hby at_169) rfl rfl ?_
                refine s_callSH (pc' := 174) (W := 2) X159 hx hZ hS hk (own_EW hw) HC172  hown (hw _ (List.mem_of_getElem? (i := 3) rfl)) (hw _ (List.mem_of_getElem? (i := 4) rfl)) (hw _ (List.mem_of_getElem? (i := 5) rfl)) (hw _ (List.mem_of_getElem? (i := 6) rfl)) (by decide) e159 (own_str l Z a0 hw [] u0 cs hp159 n0 Z195 O173 S_cs hcs) own_safe0 (by rw [hml]; rfl) [(.int u0)] [(.ref a2), (.ref a2)] rfl (lenOf own_pd8 rfl) rfl (Nat.le_of_eq rfl) (by decide) (by decide) (by decide) (by decide) rfl (hb hby at_171) fun T200 v200 Lc200 X200 hS hZ hown hr200 hQ200 => ?_
                obtain ⟨s5, b5, k5, rfl, Nq200, Kq200, szs5, Es5, Fc5, Fv5, Vb5⟩ := hQ200
                have g_s5 : n0 ≤ s5 := Nat.le_trans Z195 szs5
                have ne201 : a1 ≠ s5 := Nat.ne_of_lt (Nat.lt_of_lt_of_le f174.lt szs5)
                have ne202 : s1 ≠ s5 := Nat.ne_of_lt (Nat.lt_of_lt_of_le f175.lt szs5)
                have ne203 : b1 ≠ s5 := Nat.ne_of_lt (Nat.lt_of_lt_of_le f178.lt szs5)
                have ne204 : s2 ≠ s5 := Nat.ne_of_lt (Nat.lt_of_lt_of_le f179.lt szs5)
                have ne205 : b2 ≠ s5 := Nat.ne_of_lt (Nat.lt_of_lt_of_le f182.lt szs5)
                have ne206 : s3 ≠ s5 := Nat.ne_of_lt (Nat.lt_of_lt_of_le f183.lt szs5)
                have ne207 : b3 ≠ s5 := Nat.ne_of_lt (Nat.lt_of_lt_of_le f186.lt szs5)
                have ne208 : s4 ≠ s5 := Nat.ne_of_lt (Nat.lt_of_lt_of_le f187.lt szs5)
                have ne209 : b4 ≠ s5 := Nat.ne_of_lt (Nat.lt_of_lt_of_le f190.lt szs5)
                have ne210 : a2 ≠ s5 := Nat.ne_of_lt (Nat.lt_of_lt_of_le A159.lt szs5)
                have sf211 := CHr.safe hr200 f174.lt sf170
                have sf212 := CHr.safe hr200 A159.lt sf169
                have HR213 := CHr.trans HR171 (hr200)
                have HC214 := hr200.1
                have O215 := O173.keep Kq200 all0
                have N200 := Fr.app N95 Nq200
                have hk : T200.heap.size ≤ T200.heap.size := Nat.le_refl _
                have f216 := f174.keep Kq200
                have f217 := f175.keep Kq200
                have f218 := f176.keep Kq200 nin0
                have f219 := f177.keep Kq200 nin0
                have f220 := f178.keep Kq200 nin0
                have f221 := f179.keep Kq200
                have f222 := f180.keep Kq200 nin0
                have f223 := f181.keep Kq200 nin0
                have f224 := f182.keep Kq200 nin0
                have f225 := f183.keep Kq200
                have f226 := f184.keep Kq200 nin0
                have f227 := f185.keep Kq200 nin0
                have f228 := f186.keep Kq200 nin0
                have f229 := f187.keep Kq200
                have f230 := f188.keep Kq200 nin0
                have f231 := f189.keep Kq200 nin0
                have f232 := f190.keep Kq200 nin0
                have f233 := f191.keep Kq200 nin0
                have f234 := f192.keep Kq200 nin0
                have f235 := f193.keep Kq200 nin0
                have f236 := f194.keep Kq200 nin0
                have f237 := A159.keep Kq200
                have f238 := F196.keep Kq200 nin0
                have f239 := F197.keep Kq200 nin0
                have f240 := F198.keep Kq200 nin0
                have f241 := F199.keep Kq200 nin0
                have Z242 : n0 ≤ T200.heap.size := Nat.le_trans Z195 Kq200.1
                show Ends p.tables e below (T200.setTop (mkF m 174 #[.val (.int p0), .val (.int p1), .val (.int p2), .val (.int p3), .val (.int p4), .val (.int p5), .val (.ref a1), .val (.int kd), .val (.int u0), .val (.int u1), .val (.int u2), .val (.int u3), .unset, .unset] [(.ref s5), (.ref a2), (.ref a2)])) _
                refine s_iload (pc' := 176) X200.here hx (hb hby at_174) rfl rfl ?_
                refine s_callSH (pc' := 179) (W := 3) X200 hx hZ hS hk (own_EW hw) HC214  hown (hw _ (List.mem_of_getElem? (i := 3) rfl)) (hw _ (List.mem_of_getElem? (i := 4) rfl)) (hw _ (List.mem_of_getElem? (i := 5) rfl)) (hw _ (List.mem_of_getElem? (i := 6) rfl)) (by decide) rfl (own_str l Z a0 hw [] u1 cs T200.heap n0 Z242 O215 S_cs hcs) own_safe0 (by rw [hml]; rfl) [(.int u1)] [(.ref s5), (.ref a2), (.ref a2)] rfl (lenOf own_pd8 rfl) rfl (Nat.le_of_eq rfl) (by decide) (by decide) (by decide) (by decide) rfl (hb hby at_176) fun T243 v243 Lc243 X243 hS hZ hown hr243 hQ243 => ?_
                obtain ⟨s6, b6, k6, rfl, Nq243, Kq243, szs6, Es6, Fc6, Fv6, Vb6⟩ := hQ243
                have g_s6 : n0 ≤ s6 := Nat.le_trans Z242 szs6
                have ne244 : a1 ≠ s6 := Nat.ne_of_lt (Nat.lt_of_lt_of_le f216.lt szs6)
                have ne245 : s1 ≠ s6 := Nat.ne_of_lt (Nat.lt_of_lt_of_le f217.lt szs6)
                have ne246 : b1 ≠ s6 := Nat.ne_of_lt (Nat.lt_of_lt_of_le f220.lt szs6)
                have ne247 : s2 ≠ s6 := Nat.ne_of_lt (Nat.lt_of_lt_of_le f221.lt szs6)
                have ne248 : b2 ≠ s6 := Nat.ne_of_lt (Nat.lt_of_lt_of_le f224.lt szs6)
                have ne249 : s3 ≠ s6 := Nat.ne_of_lt (Nat.lt_of_lt_of_le f225.lt szs6)
                have ne250 : b3 ≠ s6 := Nat.ne_of_lt (Nat.lt_of_lt_of_le f228.lt szs6)
                have ne251 : s4 ≠ s6 := Nat.ne_of_lt (Nat.lt_of_lt_of_le f229.lt szs6)
                have ne252 : b4 ≠ s6 := Nat.ne_of_lt (Nat.lt_of_lt_of_le f232.lt szs6)
                have ne253 : a2 ≠ s6 := Nat.ne_of_lt (Nat.lt_of_lt_of_le f237.lt szs6)
                have ne254 : s5 ≠ s6 := Nat.ne_of_lt (Nat.lt_of_lt_of_le Es5.lt szs6)
                have ne255 : b5 ≠ s6 := Nat.ne_of_lt (Nat.lt_of_lt_of_le Vb5.lt szs6)
                have sf256 := CHr.safe hr243 f216.lt sf211
                have sf257 := CHr.safe hr243 f237.lt sf212
                have HR258 := CHr.trans HR213 (hr243)
                have HC259 := hr243.1
                have O260 := O215.keep Kq243 all0
                have N243 := Fr.app N200 Nq243
                have hk : T243.heap.size ≤ T243.heap.size := Nat.le_refl _
                have f261 := f216.keep Kq243
                have f262 := f217.keep Kq243
                have f263 := f218.keep Kq243 nin0
                have f264 := f219.keep Kq243 nin0
                have f265 := f220.keep Kq243 nin0
                have f266 := f221.keep Kq243
                have f267 := f222.keep Kq243 nin0
                have f268 := f223.keep Kq243 nin0
                have f269 := f224.keep Kq243 nin0
                have f270 := f225.keep Kq243
                have f271 := f226.keep Kq243 nin0
                have f272 := f227.keep Kq243 nin0
                have f273 := f228.keep Kq243 nin0
                have f274 := f229.keep Kq243
                have f275 := f230.keep Kq243 nin0
                have f276 := f231.keep Kq243 nin0
                have f277 := f232.keep Kq243 nin0
                have f278 := f233.keep Kq243 nin0
                have f279 := f234.keep Kq243 nin0
                have f280 := f235.keep Kq243 nin0
                have f281 := f236.keep Kq243 nin0
                have f282 := f237.keep Kq243
                have f283 := f238.keep Kq243 nin0
                have f284 := f239.keep Kq243 nin0
                have f285 := f240.keep Kq243 nin0
                have f286 := f241.keep Kq243 nin0
                have f287 := Es5.keep Kq243
                have f288 := Fc5.keep Kq243 nin0
                have f289 := Fv5.keep Kq243 nin0
                have f290 := Vb5.keep Kq243 nin0
                have Z291 : n0 ≤ T243.heap.size := Nat.le_trans Z242 Kq243.1
                show Ends p.tables e below (T243.setTop (mkF m 179 #[.val (.int p0), .val (.int p1), .val (.int p2), .val (.int p3), .val (.int p4), .val (.int p5), .val (.ref a1), .val (.int kd), .val (.int u0), .val (.int u1), .val (.int u2), .val (.int u3), .unset, .unset] [(.ref s6), (.ref s5), (.ref a2), (.ref a2)])) _
                refine s_iload (pc' := 181) X243.here hx (hb hby at_179) rfl rfl ?_
                refine s_callSH (pc' := 184) (W := 4) X243 hx hZ hS hk (own_EW hw) HC259  hown (hw _ (List.mem_of_getElem? (i := 3) rfl)) (hw _ (List.mem_of_getElem? (i := 4) rfl)) (hw _ (List.mem_of_getElem? (i := 5) rfl)) (hw _ (List.mem_of_getElem? (i := 6) rfl)) (by decide) rfl (own_str l Z a0 hw [] u2 cs T243.heap n0 Z291 O260 S_cs hcs) own_safe0 (by rw [hml]; rfl) [(.int u2)] [(.ref s6), (.ref s5), (.ref a2), (.ref a2)] rfl (lenOf own_pd8 rfl) rfl (Nat.le_of_eq rfl) (by decide) (by decide) (by decide) (by decide) rfl (hb hby at_181) fun T292 v292 Lc292 X292 hS hZ hown hr292 hQ292 => ?_
                obtain ⟨s7, b7, k7, rfl, Nq292, Kq292, szs7, Es7, Fc7, Fv7, Vb7⟩ := hQ292
                have g_s7 : n0 ≤ s7 := Nat.le_trans Z291 szs7
                have ne293 : a1 ≠ s7 := Nat.ne_of_lt (Nat.lt_of_lt_of_le f261.lt szs7)
                have ne294 : s1 ≠ s7 := Nat.ne_of_lt (Nat.lt_of_lt_of_le f262.lt szs7)
                have ne295 : b1 ≠ s7 := Nat.ne_of_lt (Nat.lt_of_lt_of_le f265.lt szs7)
                have ne296 : s2 ≠ s7 := Nat.ne_of_lt (Nat.lt_of_lt_of_le f266.lt szs7)
                have ne297 : b2 ≠ s7 := Nat.ne_of_lt (Nat.lt_of_lt_of_le f269.lt szs7)
                have ne298 : s3 ≠ s7 := Nat.ne_of_lt (Nat.lt_of_lt_of_le f270.lt szs7)
                have ne299 : b3 ≠ s7 := Nat.ne_of_lt (Nat.lt_of_lt_of_le f273.lt szs7)
                have ne300 : s4 ≠ s7 := Nat.ne_of_lt (Nat.lt_of_lt_of_le f274.lt szs7)
                have ne301 : b4 ≠ s7 := Nat.ne_of_lt (Nat.lt_of_lt_of_le f277.lt szs7)
                have ne302 : a2 ≠ s7 := Nat.ne_of_lt (Nat.lt_of_lt_of_le f282.lt szs7)
                have ne303 : s5 ≠ s7 := Nat.ne_of_lt (Nat.lt_of_lt_of_le f287.lt szs7)
                have ne304 : b5 ≠ s7 := Nat.ne_of_lt (Nat.lt_of_lt_of_le f290.lt szs7)
                have ne305 : s6 ≠ s7 := Nat.ne_of_lt (Nat.lt_of_lt_of_le Es6.lt szs7)
                have ne306 : b6 ≠ s7 := Nat.ne_of_lt (Nat.lt_of_lt_of_le Vb6.lt szs7)
                have sf307 := CHr.safe hr292 f261.lt sf256
                have sf308 := CHr.safe hr292 f282.lt sf257
                have HR309 := CHr.trans HR258 (hr292)
                have HC310 := hr292.1
                have O311 := O260.keep Kq292 all0
                have N292 := Fr.app N243 Nq292
                have hk : T292.heap.size ≤ T292.heap.size := Nat.le_refl _
                have f312 := f261.keep Kq292
                have f313 := f262.keep Kq292
                have f314 := f263.keep Kq292 nin0
                have f315 := f264.keep Kq292 nin0
                have f316 := f265.keep Kq292 nin0
                have f317 := f266.keep Kq292
                have f318 := f267.keep Kq292 nin0
                have f319 := f268.keep Kq292 nin0
                have f320 := f269.keep Kq292 nin0
                have f321 := f270.keep Kq292
                have f322 := f271.keep Kq292 nin0
                have f323 := f272.keep Kq292 nin0
                have f324 := f273.keep Kq292 nin0
                have f325 := f274.keep Kq292
                have f326 := f275.keep Kq292 nin0
                have f327 := f276.keep Kq292 nin0
                have f328 := f277.keep Kq292 nin0
                have f329 := f278.keep Kq292 nin0
                have f330 := f279.keep Kq292 nin0
                have f331 := f280.keep Kq292 nin0
                have f332 := f281.keep Kq292 nin0
                have f333 := f282.keep Kq292
                have f334 := f283.keep Kq292 nin0
                have f335 := f284.keep Kq292 nin0
                have f336 := f285.keep Kq292 nin0
                have f337 := f286.keep Kq292 nin0
                have f338 := f287.keep Kq292
                have f339 := f288.keep Kq292 nin0
                have f340 := f289.keep Kq292 nin0
                have f341 := f290.keep Kq292 nin0
                have f342 := Es6.keep Kq292
                have f343 := Fc6.keep Kq292 nin0
                have f344 := Fv6.keep Kq292 nin0
                have f345 := Vb6.keep Kq292 nin0
                have Z346 : n0 ≤ T292.heap.size := Nat.le_trans Z291 Kq292.1
                show Ends p.tables e below (T292.setTop (mkF m 184 #[.val (.int p0), .val (.int p1), .val (.int p2), .val (.int p3), .val (.int p4), .val (.int p5), .val (.ref a1), .val (.int kd), .val (.int u0), .val (.int u1), .val (.int u2), .val (.int u3), .unset, .unset] [(.ref s7), (.ref s6), (.ref s5), (.ref a2), (.ref a2)])) _
                refine s_iload (pc' := 186) X292.here hx (hb hby at_184) rfl rfl ?_
                refine s_callSH (pc' := 189) (W := 5) X292 hx hZ hS hk (own_EW hw) HC310  hown (hw _ (List.mem_of_getElem? (i := 3) rfl)) (hw _ (List.mem_of_getElem? (i := 4) rfl)) (hw _ (List.mem_of_getElem? (i := 5) rfl)) (hw _ (List.mem_of_getElem? (i := 6) rfl)) (by decide) rfl (own_str l Z a0 hw [] u3 cs T292.heap n0 Z346 O311 S_cs hcs) own_safe0 (by rw [hml]; rfl) [(.int u3)] [(.ref s7), (.ref s6), (.ref s5), (.ref a2), (.ref a2)] rfl (lenOf own_pd8 rfl) rfl (Nat.le_of_eq rfl) (by decide) (by decide) (by decide) (by decide) rfl (hb hby at_186) fun T347 v347 Lc347 X347 hS hZ hown hr347 hQ347 => ?_
                obtain ⟨s8, b8, k8, rfl, Nq347, Kq347, szs8, Es8, Fc8, Fv8, Vb8⟩ := hQ347
                have g_s8 : n0 ≤ s8 := Nat.le_trans Z346 szs8
                have ne348 : a1 ≠ s8 := Nat.ne_of_lt (Nat.lt_of_lt_of_le f312.lt szs8)
                have ne349 : s1 ≠ s8 := Nat.ne_of_lt (Nat.lt_of_lt_of_le f313.lt szs8)
                have ne350 : b1 ≠ s8 := Nat.ne_of_lt (Nat.lt_of_lt_of_le f316.lt szs8)
                have ne351 : s2 ≠ s8 := Nat.ne_of_lt (Nat.lt_of_lt_of_le f317.lt szs8)
                have ne352 : b2 ≠ s8 := Nat.ne_of_lt (Nat.lt_of_lt_of_le f320.lt szs8)
                have ne353 : s3 ≠ s8 := Nat.ne_of_lt (Nat.lt_of_lt_of_le f321.lt szs8)
                have ne354 : b3 ≠ s8 := Nat.ne_of_lt (Nat.lt_of_lt_of_le f324.lt szs8)
                have ne355 : s4 ≠ s8 := Nat.ne_of_lt (Nat.lt_of_lt_of_le f325.lt szs8)
                have ne356 : b4 ≠ s8 := Nat.ne_of_lt (Nat.lt_of_lt_of_le f328.lt szs8)
                have ne357 : a2 ≠ s8 := Nat.ne_of_lt (Nat.lt_of_lt_of_le f333.lt szs8)
                have ne358 : s5 ≠ s8 := Nat.ne_of_lt (Nat.lt_of_lt_of_le f338.lt szs8)
                have ne359 : b5 ≠ s8 := Nat.ne_of_lt (Nat.lt_of_lt_of_le f341.lt szs8)
                have ne360 : s6 ≠ s8 := Nat.ne_of_lt (Nat.lt_of_lt_of_le f342.lt szs8)
                have ne361 : b6 ≠ s8 := Nat.ne_of_lt (Nat.lt_of_lt_of_le f345.lt szs8)
                have ne362 : s7 ≠ s8 := Nat.ne_of_lt (Nat.lt_of_lt_of_le Es7.lt szs8)
                have ne363 : b7 ≠ s8 := Nat.ne_of_lt (Nat.lt_of_lt_of_le Vb7.lt szs8)
                have sf364 := CHr.safe hr347 f312.lt sf307
                have sf365 := CHr.safe hr347 f333.lt sf308
                have HR366 := CHr.trans HR309 (hr347)
                have HC367 := hr347.1
                have O368 := O311.keep Kq347 all0
                have N347 := Fr.app N292 Nq347
                have hk : T347.heap.size ≤ T347.heap.size := Nat.le_refl _
                have f369 := f312.keep Kq347
                have f370 := f313.keep Kq347
                have f371 := f314.keep Kq347 nin0
                have f372 := f315.keep Kq347 nin0
                have f373 := f316.keep Kq347 nin0
                have f374 := f317.keep Kq347
                have f375 := f318.keep Kq347 nin0
                have f376 := f319.keep Kq347 nin0
                have f377 := f320.keep Kq347 nin0
                have f378 := f321.keep Kq347
                have f379 := f322.keep Kq347 nin0
                have f380 := f323.keep Kq347 nin0
                have f381 := f324.keep Kq347 nin0
                have f382 := f325.keep Kq347
                have f383 := f326.keep Kq347 nin0
                have f384 := f327.keep Kq347 nin0
                have f385 := f328.keep Kq347 nin0
                have f386 := f329.keep Kq347 nin0
                have f387 := f330.keep Kq347 nin0
                have f388 := f331.keep Kq347 nin0
                have f389 := f332.keep Kq347 nin0
                have f390 := f333.keep Kq347
                have f391 := f334.keep Kq347 nin0
                have f392 := f335.keep Kq347 nin0
                have f393 := f336.keep Kq347 nin0
                have f394 := f337.keep Kq347 nin0
                have f395 := f338.keep Kq347
                have f396 := f339.keep Kq347 nin0
                have f397 := f340.keep Kq347 nin0
                have f398 := f341.keep Kq347 nin0
                have f399 := f342.keep Kq347
                have f400 := f343.keep Kq347 nin0
                have f401 := f344.keep Kq347 nin0
                have f402 := f345.keep Kq347 nin0
                have f403 := Es7.keep Kq347
                have f404 := Fc7.keep Kq347 nin0
                have f405 := Fv7.keep Kq347 nin0
                have f406 := Vb7.keep Kq347 nin0
                have Z407 : n0 ≤ T347.heap.size := Nat.le_trans Z346 Kq347.1
                show Ends p.tables e below (T347.setTop (mkF m 189 #[.val (.int p0), .val (.int p1), .val (.int p2), .val (.int p3), .val (.int p4), .val (.int p5), .val (.ref a1), .val (.int kd), .val (.int u0), .val (.int u1), .val (.int u2), .val (.int u3), .unset, .unset] [(.ref s8), (.ref s7), (.ref s6), (.ref s5), (.ref a2), (.ref a2)])) _
                have neb5 : a2 ≠ b5 := Exa.neArv f390 f398 (hw _ (List.mem_of_getElem? (i := 1) rfl))
                have neb6 : a2 ≠ b6 := Exa.neArv f390 f402 (hw _ (List.mem_of_getElem? (i := 1) rfl))
                have neb7 : a2 ≠ b7 := Exa.neArv f390 f406 (hw _ (List.mem_of_getElem? (i := 1) rfl))
                have neb8 : a2 ≠ b8 := Exa.neArv f390 Vb8 (hw _ (List.mem_of_getElem? (i := 1) rfl))
                refine s_callIH (pc' := 192) (W := 1) X347 hx hZ hS hk (own_EW hw) HC367  hown rfl (hw _ (List.mem_of_getElem? (i := 29) rfl)) (hw _ (List.mem_of_getElem? (i := 30) rfl)) (hw _ (List.mem_of_getElem? (i := 2) rfl)) (hw _ (List.mem_of_getElem? (i := 31) rfl)) (by decide) rfl (own_ai l Z a0 hw [] a2 s5 s6 s7 s8 T347.heap n0 Z407 f391 f392 f393 f394 f390 g_a2 f395 f399 f403 Es8) own_safe0 a2 (by rw [hml]; rfl) [(.ref s5), (.ref s6), (.ref s7), (.ref s8)] [(.ref a2)] rfl (lenOf own_pd9 rfl) rfl (Nat.le_of_eq rfl) (by decide) (by decide) (by decide) (by decide) rfl (hb hby at_189) fun T408 v408 Lc408 X408 hS hZ hown hr408 hQ408 => ?_
                obtain ⟨rfl, Nq408, Kq408, Ea2, FmerchantIda2, FrequestIda2, Fmethoda2, Fpatha2⟩ := hQ408
                have sf409 := CHr.safe hr408 f369.lt sf364
                have sf410 := CHr.safe hr408 f390.lt sf365
                have HR411 := CHr.trans HR366 (hr408)
                have HC412 := hr408.1
                have O413 := O368.keep Kq408 (allS g_a2 all0)
                have N408 := Fr.app N347 Nq408
                have hk : T408.heap.size ≤ T408.heap.size := Nat.le_refl _
                have f414 := f369.keep Kq408
                have f415 := f370.keep Kq408
                have f416 := f371.keep Kq408 (ninS ne161 nin0)
                have f417 := f372.keep Kq408 (ninS ne161 nin0)
                have f418 := f373.keep Kq408 (ninS ne162 nin0)
                have f419 := f374.keep Kq408
                have f420 := f375.keep Kq408 (ninS ne163 nin0)
                have f421 := f376.keep Kq408 (ninS ne163 nin0)
                have f422 := f377.keep Kq408 (ninS ne164 nin0)
                have f423 := f378.keep Kq408
                have f424 := f379.keep Kq408 (ninS ne165 nin0)
                have f425 := f380.keep Kq408 (ninS ne165 nin0)
                have f426 := f381.keep Kq408 (ninS ne166 nin0)
                have f427 := f382.keep Kq408
                have f428 := f383.keep Kq408 (ninS ne167 nin0)
                have f429 := f384.keep Kq408 (ninS ne167 nin0)
                have f430 := f385.keep Kq408 (ninS ne168 nin0)
                have f431 := f386.keep Kq408 (ninS ne160 nin0)
                have f432 := f387.keep Kq408 (ninS ne160 nin0)
                have f433 := f388.keep Kq408 (ninS ne160 nin0)
                have f434 := f389.keep Kq408 (ninS ne160 nin0)
                have f435 := f390.keep Kq408
                have f436 := f395.keep Kq408
                have f437 := f396.keep Kq408 (ninS (Ne.symm ne210) nin0)
                have f438 := f397.keep Kq408 (ninS (Ne.symm ne210) nin0)
                have f439 := f398.keep Kq408 (ninS (Ne.symm neb5) nin0)
                have f440 := f399.keep Kq408
                have f441 := f400.keep Kq408 (ninS (Ne.symm ne253) nin0)
                have f442 := f401.keep Kq408 (ninS (Ne.symm ne253) nin0)
                have f443 := f402.keep Kq408 (ninS (Ne.symm neb6) nin0)
                have f444 := f403.keep Kq408
                have f445 := f404.keep Kq408 (ninS (Ne.symm ne302) nin0)
                have f446 := f405.keep Kq408 (ninS (Ne.symm ne302) nin0)
                have f447 := f406.keep Kq408 (ninS (Ne.symm neb7) nin0)
                have f448 := Es8.keep Kq408
                have f449 := Fc8.keep Kq408 (ninS (Ne.symm ne357) nin0)
                have f450 := Fv8.keep Kq408 (ninS (Ne.symm ne357) nin0)
                have f451 := Vb8.keep Kq408 (ninS (Ne.symm neb8) nin0)
                have Z452 : n0 ≤ T408.heap.size := Nat.le_trans Z407 Kq408.1
                show Ends p.tables e below (T408.setTop (mkF m 192 #[.val (.int p0), .val (.int p1), .val (.int p2), .val (.int p3), .val (.int p4), .val (.int p5), .val (.ref a1), .val (.int kd), .val (.int u0), .val (.int u1), .val (.int u2), .val (.int u3), .unset, .unset] [(.ref a2)])) _
                refine s_astore (pc' := 194) X408.here hx (l' := #[.val (.int p0), .val (.int p1), .val (.int p2), .val (.int p3), .val (.int p4), .val (.int p5), .val (.ref a1), .val (.int kd), .val (.int u0), .val (.int u1), .val (.int u2), .val (.int u3), .val (.ref a2), .unset]) (hb hby at_192) rfl rfl rfl ?_
                refine s_iloadN (pc' := 195) X408.here hx (hb hby at_194) rfl rfl ?_
                obtain ⟨r1, r01, hr1, hs1, hy1, hn1⟩ := own_pick p0 u0
                obtain ⟨r2, r02, hr2, hs2, hy2, hn2⟩ := own_pick p1 u1
                obtain ⟨r3, r03, hr3, hs3, hy3, hn3⟩ := own_pick p2 u2
                obtain ⟨r4, r04, hr4, hs4, hy4, hn4⟩ := own_pick p3 u3
                refine s_callS (pc' := 198) (W := 0) X408 hx hZ  hown (hw _ (List.mem_of_getElem? (i := 50) rfl)) (hw _ (List.mem_of_getElem? (i := 51) rfl)) (hw _ (List.mem_of_getElem? (i := 5) rfl)) (hw _ (List.mem_of_getElem? (i := 52) rfl)) (by decide) rfl (own_can l Z a0 hw [] p0 T408.heap n0 Z452 ) (by rw [hml]; rfl) [(.int p0)] [] rfl (lenOf own_pd10 rfl) rfl (Nat.le_of_eq rfl) (by decide) (by decide) (by decide) (by decide) rfl (hb hby at_195) fun T453 v453 Lc453 X453 hQ453 => ?_
                obtain ⟨rfl, Nq453, eh453⟩ := hQ453
                have N453 := Fr.app N408 Nq453
                show Ends p.tables e below (T453.setTop (mkF m 198 #[.val (.int p0), .val (.int p1), .val (.int p2), .val (.int p3), .val (.int p4), .val (.int p5), .val (.ref a1), .val (.int kd), .val (.int u0), .val (.int u1), .val (.int u2), .val (.int u3), .val (.ref a2), .unset] [(.int (own_cn p0))])) _
                refine s_iload (pc' := 200) X453.here hx (hb hby at_198) rfl rfl ?_
                refine s_callS (pc' := 203) (W := 1) X453 hx hZ  hown (hw _ (List.mem_of_getElem? (i := 50) rfl)) (hw _ (List.mem_of_getElem? (i := 51) rfl)) (hw _ (List.mem_of_getElem? (i := 5) rfl)) (hw _ (List.mem_of_getElem? (i := 52) rfl)) (by decide) eh453 (own_can l Z a0 hw [] u0 T408.heap n0 Z452 ) (by rw [hml]; rfl) [(.int u0)] [(.int (own_cn p0))] rfl (lenOf own_pd10 rfl) rfl (Nat.le_of_eq rfl) (by decide) (by decide) (by decide) (by decide) rfl (hb hby at_200) fun T454 v454 Lc454 X454 hQ454 => ?_
                obtain ⟨rfl, Nq454, eh454⟩ := hQ454
                have N454 := Fr.app N453 Nq454
                show Ends p.tables e below (T454.setTop (mkF m 203 #[.val (.int p0), .val (.int p1), .val (.int p2), .val (.int p3), .val (.int p4), .val (.int p5), .val (.ref a1), .val (.int kd), .val (.int u0), .val (.int u1), .val (.int u2), .val (.int u3), .val (.ref a2), .unset] [(.int (own_cn u0)), (.int (own_cn p0))])) _
                by_cases hc0 : (own_cn p0) = (own_cn u0)
                · refine s_icmpNo (pc' := 206) X454.here hx (hb hby at_203) (teq hc0).2 rfl ?_
                  refine s_iloadN (pc' := 207) X454.here hx (hb hby at_206) rfl rfl ?_
                  refine s_callS (pc' := 210) (W := 0) X454 hx hZ  hown (hw _ (List.mem_of_getElem? (i := 50) rfl)) (hw _ (List.mem_of_getElem? (i := 51) rfl)) (hw _ (List.mem_of_getElem? (i := 5) rfl)) (hw _ (List.mem_of_getElem? (i := 52) rfl)) (by decide) eh454 (own_can l Z a0 hw [] p1 T408.heap n0 Z452 ) (by rw [hml]; rfl) [(.int p1)] [] rfl (lenOf own_pd10 rfl) rfl (Nat.le_of_eq rfl) (by decide) (by decide) (by decide) (by decide) rfl (hb hby at_207) fun T459 v459 Lc459 X459 hQ459 => ?_
                  obtain ⟨rfl, Nq459, eh459⟩ := hQ459
                  have N459 := Fr.app N454 Nq459
                  show Ends p.tables e below (T459.setTop (mkF m 210 #[.val (.int p0), .val (.int p1), .val (.int p2), .val (.int p3), .val (.int p4), .val (.int p5), .val (.ref a1), .val (.int kd), .val (.int u0), .val (.int u1), .val (.int u2), .val (.int u3), .val (.ref a2), .unset] [(.int (own_cn p1))])) _
                  refine s_iload (pc' := 212) X459.here hx (hb hby at_210) rfl rfl ?_
                  refine s_callS (pc' := 215) (W := 1) X459 hx hZ  hown (hw _ (List.mem_of_getElem? (i := 50) rfl)) (hw _ (List.mem_of_getElem? (i := 51) rfl)) (hw _ (List.mem_of_getElem? (i := 5) rfl)) (hw _ (List.mem_of_getElem? (i := 52) rfl)) (by decide) eh459 (own_can l Z a0 hw [] u1 T408.heap n0 Z452 ) (by rw [hml]; rfl) [(.int u1)] [(.int (own_cn p1))] rfl (lenOf own_pd10 rfl) rfl (Nat.le_of_eq rfl) (by decide) (by decide) (by decide) (by decide) rfl (hb hby at_212) fun T460 v460 Lc460 X460 hQ460 => ?_
                  obtain ⟨rfl, Nq460, eh460⟩ := hQ460
                  have N460 := Fr.app N459 Nq460
                  show Ends p.tables e below (T460.setTop (mkF m 215 #[.val (.int p0), .val (.int p1), .val (.int p2), .val (.int p3), .val (.int p4), .val (.int p5), .val (.ref a1), .val (.int kd), .val (.int u0), .val (.int u1), .val (.int u2), .val (.int u3), .val (.ref a2), .unset] [(.int (own_cn u1)), (.int (own_cn p1))])) _
                  by_cases hc1 : (own_cn p1) = (own_cn u1)
                  · refine s_icmpNo (pc' := 218) X460.here hx (hb hby at_215) (teq hc1).2 rfl ?_
                    refine s_iloadN (pc' := 219) X460.here hx (hb hby at_218) rfl rfl ?_
                    refine s_callS (pc' := 222) (W := 0) X460 hx hZ  hown (hw _ (List.mem_of_getElem? (i := 50) rfl)) (hw _ (List.mem_of_getElem? (i := 51) rfl)) (hw _ (List.mem_of_getElem? (i := 5) rfl)) (hw _ (List.mem_of_getElem? (i := 52) rfl)) (by decide) eh460 (own_can l Z a0 hw [] p2 T408.heap n0 Z452 ) (by rw [hml]; rfl) [(.int p2)] [] rfl (lenOf own_pd10 rfl) rfl (Nat.le_of_eq rfl) (by decide) (by decide) (by decide) (by decide) rfl (hb hby at_219) fun T465 v465 Lc465 X465 hQ465 => ?_
                    obtain ⟨rfl, Nq465, eh465⟩ := hQ465
                    have N465 := Fr.app N460 Nq465
                    show Ends p.tables e below (T465.setTop (mkF m 222 #[.val (.int p0), .val (.int p1), .val (.int p2), .val (.int p3), .val (.int p4), .val (.int p5), .val (.ref a1), .val (.int kd), .val (.int u0), .val (.int u1), .val (.int u2), .val (.int u3), .val (.ref a2), .unset] [(.int (own_cn p2))])) _
                    refine s_iload (pc' := 224) X465.here hx (hb hby at_222) rfl rfl ?_
                    refine s_callS (pc' := 227) (W := 1) X465 hx hZ  hown (hw _ (List.mem_of_getElem? (i := 50) rfl)) (hw _ (List.mem_of_getElem? (i := 51) rfl)) (hw _ (List.mem_of_getElem? (i := 5) rfl)) (hw _ (List.mem_of_getElem? (i := 52) rfl)) (by decide) eh465 (own_can l Z a0 hw [] u2 T408.heap n0 Z452 ) (by rw [hml]; rfl) [(.int u2)] [(.int (own_cn p2))] rfl (lenOf own_pd10 rfl) rfl (Nat.le_of_eq rfl) (by decide) (by decide) (by decide) (by decide) rfl (hb hby at_224) fun T466 v466 Lc466 X466 hQ466 => ?_
                    obtain ⟨rfl, Nq466, eh466⟩ := hQ466
                    have N466 := Fr.app N465 Nq466
                    show Ends p.tables e below (T466.setTop (mkF m 227 #[.val (.int p0), .val (.int p1), .val (.int p2), .val (.int p3), .val (.int p4), .val (.int p5), .val (.ref a1), .val (.int kd), .val (.int u0), .val (.int u1), .val (.int u2), .val (.int u3), .val (.ref a2), .unset] [(.int (own_cn u2)), (.int (own_cn p2))])) _
                    by_cases hc2 : (own_cn p2) = (own_cn u2)
                    · refine s_icmpNo (pc' := 230) X466.here hx (hb hby at_227) (teq hc2).2 rfl ?_
                      refine s_iloadN (pc' := 231) X466.here hx (hb hby at_230) rfl rfl ?_
                      refine s_callS (pc' := 234) (W := 0) X466 hx hZ  hown (hw _ (List.mem_of_getElem? (i := 50) rfl)) (hw _ (List.mem_of_getElem? (i := 51) rfl)) (hw _ (List.mem_of_getElem? (i := 5) rfl)) (hw _ (List.mem_of_getElem? (i := 52) rfl)) (by decide) eh466 (own_can l Z a0 hw [] p3 T408.heap n0 Z452 ) (by rw [hml]; rfl) [(.int p3)] [] rfl (lenOf own_pd10 rfl) rfl (Nat.le_of_eq rfl) (by decide) (by decide) (by decide) (by decide) rfl (hb hby at_231) fun T471 v471 Lc471 X471 hQ471 => ?_
                      obtain ⟨rfl, Nq471, eh471⟩ := hQ471
                      have N471 := Fr.app N466 Nq471
                      show Ends p.tables e below (T471.setTop (mkF m 234 #[.val (.int p0), .val (.int p1), .val (.int p2), .val (.int p3), .val (.int p4), .val (.int p5), .val (.ref a1), .val (.int kd), .val (.int u0), .val (.int u1), .val (.int u2), .val (.int u3), .val (.ref a2), .unset] [(.int (own_cn p3))])) _
                      refine s_iload (pc' := 236) X471.here hx (hb hby at_234) rfl rfl ?_
                      refine s_callS (pc' := 239) (W := 1) X471 hx hZ  hown (hw _ (List.mem_of_getElem? (i := 50) rfl)) (hw _ (List.mem_of_getElem? (i := 51) rfl)) (hw _ (List.mem_of_getElem? (i := 5) rfl)) (hw _ (List.mem_of_getElem? (i := 52) rfl)) (by decide) eh471 (own_can l Z a0 hw [] u3 T408.heap n0 Z452 ) (by rw [hml]; rfl) [(.int u3)] [(.int (own_cn p3))] rfl (lenOf own_pd10 rfl) rfl (Nat.le_of_eq rfl) (by decide) (by decide) (by decide) (by decide) rfl (hb hby at_236) fun T472 v472 Lc472 X472 hQ472 => ?_
                      obtain ⟨rfl, Nq472, eh472⟩ := hQ472
                      have N472 := Fr.app N471 Nq472
                      show Ends p.tables e below (T472.setTop (mkF m 239 #[.val (.int p0), .val (.int p1), .val (.int p2), .val (.int p3), .val (.int p4), .val (.int p5), .val (.ref a1), .val (.int kd), .val (.int u0), .val (.int u1), .val (.int u2), .val (.int u3), .val (.ref a2), .unset] [(.int (own_cn u3)), (.int (own_cn p3))])) _
                      by_cases hc3 : (own_cn p3) = (own_cn u3)
                      · refine s_icmpNo (pc' := 242) X472.here hx (hb hby at_239) (teq hc3).2 rfl ?_
                        refine s_iconst (pc' := 243) X472.here hx (v := (1 : Int32)) (hb hby at_242) rfl rfl ?_
                        refine s_goto (pc' := 247) X472.here hx (hb hby at_243) (by decide) (by decide) ?_
                        refine s_istore (pc' := 249) X472.here hx (l' := #[.val (.int p0), .val (.int p1), .val (.int p2), .val (.int p3), .val (.int p4), .val (.int p5), .val (.ref a1), .val (.int kd), .val (.int u0), .val (.int u1), .val (.int u2), .val (.int u3), .val (.ref a2), .val (.int (1 : Int32))]) (hb hby at_247) rfl rfl ?_
                        refine s_aload (pc' := 251) X472.here hx (hb hby at_249) rfl rfl rfl ?_
                        refine s_aload (pc' := 253) X472.here hx (hb hby at_251) rfl rfl rfl ?_
                        refine s_callV (pc' := 256) (W := 0) X472 hx hZ  hown (hw _ (List.mem_of_getElem? (i := 53) rfl)) (hw _ (List.mem_of_getElem? (i := 54) rfl)) (hw _ (List.mem_of_getElem? (i := 2) rfl)) (hw _ (List.mem_of_getElem? (i := 57) rfl)) (hw _ (List.mem_of_getElem? (i := 56) rfl)) (hw _ (List.mem_of_getElem? (i := 55) rfl)) (by decide) eh472 f414 (own_eqA l Z a0 hw [] a1 a2 cs s1 b1 k1 (own_len p0) (own_tx p0) s2 b2 k2 (own_len p1) (own_tx p1) s3 b3 k3 (own_len p2) (own_tx p2) s4 b4 k4 (own_len p3) (own_tx p3) s5 b5 k5 (own_len u0) (own_tx u0) s6 b6 k6 (own_len u1) (own_tx u1) s7 b7 k7 (own_len u2) (own_tx u2) s8 b8 k8 (own_len u3) (own_tx u3) r1 r2 r3 r4 T408.heap n0 Z452 O413 S_cs hcs Ea2 f431 f432 f433 f434 FmerchantIda2 FrequestIda2 Fmethoda2 Fpatha2 f415 f416 f417 f418 f419 f420 f421 f422 f423 f424 f425 f426 f427 f428 f429 f430 f436 f437 f438 f439 f440 f441 f442 f443 f444 f445 f446 f447 f448 f449 f450 f451 r01 hr1 r02 hr2 r03 hr3 r04 hr4) (by rw [hml]; rfl) [(.ref a2)] [] rfl (lenOf own_pd7 rfl) rfl (Nat.le_of_eq rfl) (by decide) (by decide) (by decide) (by decide) rfl (hb hby at_253) fun T477 v477 Lc477 X477 hQ477 => ?_
                        obtain ⟨rfl, Nq477, eh477⟩ := hQ477
                        have N477 := Fr.app N472 Nq477
                        show Ends p.tables e below (T477.setTop (mkF m 256 #[.val (.int p0), .val (.int p1), .val (.int p2), .val (.int p3), .val (.int p4), .val (.int p5), .val (.ref a1), .val (.int kd), .val (.int u0), .val (.int u1), .val (.int u2), .val (.int u3), .val (.ref a2), .val (.int (1 : Int32))] [(.int (own_and r1 r2 r3 r4))])) _
                        refine s_iload (pc' := 258) X477.here hx (hb hby at_256) rfl rfl ?_
                        have hk478 : (own_and r1 r2 r3 r4) = (1 : Int32) := by unfold own_and; rw [if_neg (by rw [hy1 hc0]; decide), if_neg (by rw [hy2 hc1]; decide), if_neg (by rw [hy3 hc2]; decide), hy4 hc3]
                        refine s_icmpNo (pc' := 261) X477.here hx (hb hby at_258) (teq hk478).2 rfl ?_
                        refine s_aload (pc' := 263) X477.here hx (hb hby at_261) rfl rfl rfl ?_
                        refine s_aload (pc' := 265) X477.here hx (hb hby at_263) rfl rfl rfl ?_
                        refine s_callV (pc' := 268) (W := 0) X477 hx hZ  hown (hw _ (List.mem_of_getElem? (i := 53) rfl)) (hw _ (List.mem_of_getElem? (i := 54) rfl)) (hw _ (List.mem_of_getElem? (i := 2) rfl)) (hw _ (List.mem_of_getElem? (i := 57) rfl)) (hw _ (List.mem_of_getElem? (i := 56) rfl)) (hw _ (List.mem_of_getElem? (i := 55) rfl)) (by decide) eh477 Ea2 (own_eqA l Z a0 hw [] a2 a1 cs s5 b5 k5 (own_len u0) (own_tx u0) s6 b6 k6 (own_len u1) (own_tx u1) s7 b7 k7 (own_len u2) (own_tx u2) s8 b8 k8 (own_len u3) (own_tx u3) s1 b1 k1 (own_len p0) (own_tx p0) s2 b2 k2 (own_len p1) (own_tx p1) s3 b3 k3 (own_len p2) (own_tx p2) s4 b4 k4 (own_len p3) (own_tx p3) r1 r2 r3 r4 T408.heap n0 Z452 O413 S_cs hcs f414 FmerchantIda2 FrequestIda2 Fmethoda2 Fpatha2 f431 f432 f433 f434 f436 f437 f438 f439 f440 f441 f442 f443 f444 f445 f446 f447 f448 f449 f450 f451 f415 f416 f417 f418 f419 f420 f421 f422 f423 f424 f425 f426 f427 f428 f429 f430 r01 hs1 r02 hs2 r03 hs3 r04 hs4) (by rw [hml]; rfl) [(.ref a1)] [] rfl (lenOf own_pd7 rfl) rfl (Nat.le_of_eq rfl) (by decide) (by decide) (by decide) (by decide) rfl (hb hby at_265) fun T479 v479 Lc479 X479 hQ479 => ?_
                        obtain ⟨rfl, Nq479, eh479⟩ := hQ479
                        have N479 := Fr.app N477 Nq479
                        show Ends p.tables e below (T479.setTop (mkF m 268 #[.val (.int p0), .val (.int p1), .val (.int p2), .val (.int p3), .val (.int p4), .val (.int p5), .val (.ref a1), .val (.int kd), .val (.int u0), .val (.int u1), .val (.int u2), .val (.int u3), .val (.ref a2), .val (.int (1 : Int32))] [(.int (own_and r1 r2 r3 r4))])) _
                        refine s_iload (pc' := 270) X479.here hx (hb hby at_268) rfl rfl ?_
                        have hk480 : (own_and r1 r2 r3 r4) = (1 : Int32) := by unfold own_and; rw [if_neg (by rw [hy1 hc0]; decide), if_neg (by rw [hy2 hc1]; decide), if_neg (by rw [hy3 hc2]; decide), hy4 hc3]
                        refine s_icmpNo (pc' := 273) X479.here hx (hb hby at_270) (teq hk480).2 rfl ?_
                        refine s_iconst (pc' := 274) X479.here hx (v := (1 : Int32)) (hb hby at_273) rfl rfl ?_
                        refine s_goto (pc' := 278) X479.here hx (hb hby at_274) (by decide) (by decide) ?_
                        obtain ⟨fs, hr, hrun, hended, hRW⟩ := X479.leaveW hS (show _ ≤ T479.heap.size from by rw [eh479]; exact hk) (v := some (.int (1 : Int32))) (fun h => by rw [Bd.returns] at h; cases h)
                        have hfin : CHr Z consts_1 s.vm s.heap T479.vm T479.heap := by rw [hh, eh479]; exact CHr.trans HR411 (CHv.at X479 hZ (own_EW hw) HC412)
                        refine ⟨_, _, retN X479 hx (t := .boolean) Bd.returns (by simp) (hb hby at_278) hr, hrun, hended, _, _, rfl, ?_, hfin, own_rwm hRW (by decide) (by decide)⟩
                        show own_rm0_Q Z p0 p1 p2 p3 p4 p5 cs h0 n0 _ T479.heap _
                        rw [eh479]
                        exact ⟨rfl, N479⟩
                      · refine s_icmpYes (pc' := 246) X472.here hx (hb hby at_239) (feq hc3).2 (by decide) (by decide) ?_
                        refine s_iconst (pc' := 247) X472.here hx (v := (0 : Int32)) (hb hby at_246) rfl rfl ?_
                        refine s_istore (pc' := 249) X472.here hx (l' := #[.val (.int p0), .val (.int p1), .val (.int p2), .val (.int p3), .val (.int p4), .val (.int p5), .val (.ref a1), .val (.int kd), .val (.int u0), .val (.int u1), .val (.int u2), .val (.int u3), .val (.ref a2), .val (.int (0 : Int32))]) (hb hby at_247) rfl rfl ?_
                        refine s_aload (pc' := 251) X472.here hx (hb hby at_249) rfl rfl rfl ?_
                        refine s_aload (pc' := 253) X472.here hx (hb hby at_251) rfl rfl rfl ?_
                        refine s_callV (pc' := 256) (W := 0) X472 hx hZ  hown (hw _ (List.mem_of_getElem? (i := 53) rfl)) (hw _ (List.mem_of_getElem? (i := 54) rfl)) (hw _ (List.mem_of_getElem? (i := 2) rfl)) (hw _ (List.mem_of_getElem? (i := 57) rfl)) (hw _ (List.mem_of_getElem? (i := 56) rfl)) (hw _ (List.mem_of_getElem? (i := 55) rfl)) (by decide) eh472 f414 (own_eqA l Z a0 hw [] a1 a2 cs s1 b1 k1 (own_len p0) (own_tx p0) s2 b2 k2 (own_len p1) (own_tx p1) s3 b3 k3 (own_len p2) (own_tx p2) s4 b4 k4 (own_len p3) (own_tx p3) s5 b5 k5 (own_len u0) (own_tx u0) s6 b6 k6 (own_len u1) (own_tx u1) s7 b7 k7 (own_len u2) (own_tx u2) s8 b8 k8 (own_len u3) (own_tx u3) r1 r2 r3 r4 T408.heap n0 Z452 O413 S_cs hcs Ea2 f431 f432 f433 f434 FmerchantIda2 FrequestIda2 Fmethoda2 Fpatha2 f415 f416 f417 f418 f419 f420 f421 f422 f423 f424 f425 f426 f427 f428 f429 f430 f436 f437 f438 f439 f440 f441 f442 f443 f444 f445 f446 f447 f448 f449 f450 f451 r01 hr1 r02 hr2 r03 hr3 r04 hr4) (by rw [hml]; rfl) [(.ref a2)] [] rfl (lenOf own_pd7 rfl) rfl (Nat.le_of_eq rfl) (by decide) (by decide) (by decide) (by decide) rfl (hb hby at_253) fun T473 v473 Lc473 X473 hQ473 => ?_
                        obtain ⟨rfl, Nq473, eh473⟩ := hQ473
                        have N473 := Fr.app N472 Nq473
                        show Ends p.tables e below (T473.setTop (mkF m 256 #[.val (.int p0), .val (.int p1), .val (.int p2), .val (.int p3), .val (.int p4), .val (.int p5), .val (.ref a1), .val (.int kd), .val (.int u0), .val (.int u1), .val (.int u2), .val (.int u3), .val (.ref a2), .val (.int (0 : Int32))] [(.int (own_and r1 r2 r3 r4))])) _
                        refine s_iload (pc' := 258) X473.here hx (hb hby at_256) rfl rfl ?_
                        have hk474 : (own_and r1 r2 r3 r4) = (0 : Int32) := by unfold own_and; rw [if_neg (by rw [hy1 hc0]; decide), if_neg (by rw [hy2 hc1]; decide), if_neg (by rw [hy3 hc2]; decide), hn4 hc3]
                        refine s_icmpNo (pc' := 261) X473.here hx (hb hby at_258) (teq hk474).2 rfl ?_
                        refine s_aload (pc' := 263) X473.here hx (hb hby at_261) rfl rfl rfl ?_
                        refine s_aload (pc' := 265) X473.here hx (hb hby at_263) rfl rfl rfl ?_
                        refine s_callV (pc' := 268) (W := 0) X473 hx hZ  hown (hw _ (List.mem_of_getElem? (i := 53) rfl)) (hw _ (List.mem_of_getElem? (i := 54) rfl)) (hw _ (List.mem_of_getElem? (i := 2) rfl)) (hw _ (List.mem_of_getElem? (i := 57) rfl)) (hw _ (List.mem_of_getElem? (i := 56) rfl)) (hw _ (List.mem_of_getElem? (i := 55) rfl)) (by decide) eh473 Ea2 (own_eqA l Z a0 hw [] a2 a1 cs s5 b5 k5 (own_len u0) (own_tx u0) s6 b6 k6 (own_len u1) (own_tx u1) s7 b7 k7 (own_len u2) (own_tx u2) s8 b8 k8 (own_len u3) (own_tx u3) s1 b1 k1 (own_len p0) (own_tx p0) s2 b2 k2 (own_len p1) (own_tx p1) s3 b3 k3 (own_len p2) (own_tx p2) s4 b4 k4 (own_len p3) (own_tx p3) r1 r2 r3 r4 T408.heap n0 Z452 O413 S_cs hcs f414 FmerchantIda2 FrequestIda2 Fmethoda2 Fpatha2 f431 f432 f433 f434 f436 f437 f438 f439 f440 f441 f442 f443 f444 f445 f446 f447 f448 f449 f450 f451 f415 f416 f417 f418 f419 f420 f421 f422 f423 f424 f425 f426 f427 f428 f429 f430 r01 hs1 r02 hs2 r03 hs3 r04 hs4) (by rw [hml]; rfl) [(.ref a1)] [] rfl (lenOf own_pd7 rfl) rfl (Nat.le_of_eq rfl) (by decide) (by decide) (by decide) (by decide) rfl (hb hby at_265) fun T475 v475 Lc475 X475 hQ475 => ?_
                        obtain ⟨rfl, Nq475, eh475⟩ := hQ475
                        have N475 := Fr.app N473 Nq475
                        show Ends p.tables e below (T475.setTop (mkF m 268 #[.val (.int p0), .val (.int p1), .val (.int p2), .val (.int p3), .val (.int p4), .val (.int p5), .val (.ref a1), .val (.int kd), .val (.int u0), .val (.int u1), .val (.int u2), .val (.int u3), .val (.ref a2), .val (.int (0 : Int32))] [(.int (own_and r1 r2 r3 r4))])) _
                        refine s_iload (pc' := 270) X475.here hx (hb hby at_268) rfl rfl ?_
                        have hk476 : (own_and r1 r2 r3 r4) = (0 : Int32) := by unfold own_and; rw [if_neg (by rw [hy1 hc0]; decide), if_neg (by rw [hy2 hc1]; decide), if_neg (by rw [hy3 hc2]; decide), hn4 hc3]
                        refine s_icmpNo (pc' := 273) X475.here hx (hb hby at_270) (teq hk476).2 rfl ?_
                        refine s_iconst (pc' := 274) X475.here hx (v := (1 : Int32)) (hb hby at_273) rfl rfl ?_
                        refine s_goto (pc' := 278) X475.here hx (hb hby at_274) (by decide) (by decide) ?_
                        obtain ⟨fs, hr, hrun, hended, hRW⟩ := X475.leaveW hS (show _ ≤ T475.heap.size from by rw [eh475]; exact hk) (v := some (.int (1 : Int32))) (fun h => by rw [Bd.returns] at h; cases h)
                        have hfin : CHr Z consts_1 s.vm s.heap T475.vm T475.heap := by rw [hh, eh475]; exact CHr.trans HR411 (CHv.at X475 hZ (own_EW hw) HC412)
                        refine ⟨_, _, retN X475 hx (t := .boolean) Bd.returns (by simp) (hb hby at_278) hr, hrun, hended, _, _, rfl, ?_, hfin, own_rwm hRW (by decide) (by decide)⟩
                        show own_rm0_Q Z p0 p1 p2 p3 p4 p5 cs h0 n0 _ T475.heap _
                        rw [eh475]
                        exact ⟨rfl, N475⟩
                    · refine s_icmpYes (pc' := 246) X466.here hx (hb hby at_227) (feq hc2).2 (by decide) (by decide) ?_
                      refine s_iconst (pc' := 247) X466.here hx (v := (0 : Int32)) (hb hby at_246) rfl rfl ?_
                      refine s_istore (pc' := 249) X466.here hx (l' := #[.val (.int p0), .val (.int p1), .val (.int p2), .val (.int p3), .val (.int p4), .val (.int p5), .val (.ref a1), .val (.int kd), .val (.int u0), .val (.int u1), .val (.int u2), .val (.int u3), .val (.ref a2), .val (.int (0 : Int32))]) (hb hby at_247) rfl rfl ?_
                      refine s_aload (pc' := 251) X466.here hx (hb hby at_249) rfl rfl rfl ?_
                      refine s_aload (pc' := 253) X466.here hx (hb hby at_251) rfl rfl rfl ?_
                      refine s_callV (pc' := 256) (W := 0) X466 hx hZ  hown (hw _ (List.mem_of_getElem? (i := 53) rfl)) (hw _ (List.mem_of_getElem? (i := 54) rfl)) (hw _ (List.mem_of_getElem? (i := 2) rfl)) (hw _ (List.mem_of_getElem? (i := 57) rfl)) (hw _ (List.mem_of_getElem? (i := 56) rfl)) (hw _ (List.mem_of_getElem? (i := 55) rfl)) (by decide) eh466 f414 (own_eqA l Z a0 hw [] a1 a2 cs s1 b1 k1 (own_len p0) (own_tx p0) s2 b2 k2 (own_len p1) (own_tx p1) s3 b3 k3 (own_len p2) (own_tx p2) s4 b4 k4 (own_len p3) (own_tx p3) s5 b5 k5 (own_len u0) (own_tx u0) s6 b6 k6 (own_len u1) (own_tx u1) s7 b7 k7 (own_len u2) (own_tx u2) s8 b8 k8 (own_len u3) (own_tx u3) r1 r2 r3 r4 T408.heap n0 Z452 O413 S_cs hcs Ea2 f431 f432 f433 f434 FmerchantIda2 FrequestIda2 Fmethoda2 Fpatha2 f415 f416 f417 f418 f419 f420 f421 f422 f423 f424 f425 f426 f427 f428 f429 f430 f436 f437 f438 f439 f440 f441 f442 f443 f444 f445 f446 f447 f448 f449 f450 f451 r01 hr1 r02 hr2 r03 hr3 r04 hr4) (by rw [hml]; rfl) [(.ref a2)] [] rfl (lenOf own_pd7 rfl) rfl (Nat.le_of_eq rfl) (by decide) (by decide) (by decide) (by decide) rfl (hb hby at_253) fun T467 v467 Lc467 X467 hQ467 => ?_
                      obtain ⟨rfl, Nq467, eh467⟩ := hQ467
                      have N467 := Fr.app N466 Nq467
                      show Ends p.tables e below (T467.setTop (mkF m 256 #[.val (.int p0), .val (.int p1), .val (.int p2), .val (.int p3), .val (.int p4), .val (.int p5), .val (.ref a1), .val (.int kd), .val (.int u0), .val (.int u1), .val (.int u2), .val (.int u3), .val (.ref a2), .val (.int (0 : Int32))] [(.int (own_and r1 r2 r3 r4))])) _
                      refine s_iload (pc' := 258) X467.here hx (hb hby at_256) rfl rfl ?_
                      have hk468 : (own_and r1 r2 r3 r4) = (0 : Int32) := by unfold own_and; rw [if_neg (by rw [hy1 hc0]; decide), if_neg (by rw [hy2 hc1]; decide), if_pos (hn3 hc2)]
                      refine s_icmpNo (pc' := 261) X467.here hx (hb hby at_258) (teq hk468).2 rfl ?_
                      refine s_aload (pc' := 263) X467.here hx (hb hby at_261) rfl rfl rfl ?_
                      refine s_aload (pc' := 265) X467.here hx (hb hby at_263) rfl rfl rfl ?_
                      refine s_callV (pc' := 268) (W := 0) X467 hx hZ  hown (hw _ (List.mem_of_getElem? (i := 53) rfl)) (hw _ (List.mem_of_getElem? (i := 54) rfl)) (hw _ (List.mem_of_getElem? (i := 2) rfl)) (hw _ (List.mem_of_getElem? (i := 57) rfl)) (hw _ (List.mem_of_getElem? (i := 56) rfl)) (hw _ (List.mem_of_getElem? (i := 55) rfl)) (by decide) eh467 Ea2 (own_eqA l Z a0 hw [] a2 a1 cs s5 b5 k5 (own_len u0) (own_tx u0) s6 b6 k6 (own_len u1) (own_tx u1) s7 b7 k7 (own_len u2) (own_tx u2) s8 b8 k8 (own_len u3) (own_tx u3) s1 b1 k1 (own_len p0) (own_tx p0) s2 b2 k2 (own_len p1) (own_tx p1) s3 b3 k3 (own_len p2) (own_tx p2) s4 b4 k4 (own_len p3) (own_tx p3) r1 r2 r3 r4 T408.heap n0 Z452 O413 S_cs hcs f414 FmerchantIda2 FrequestIda2 Fmethoda2 Fpatha2 f431 f432 f433 f434 f436 f437 f438 f439 f440 f441 f442 f443 f444 f445 f446 f447 f448 f449 f450 f451 f415 f416 f417 f418 f419 f420 f421 f422 f423 f424 f425 f426 f427 f428 f429 f430 r01 hs1 r02 hs2 r03 hs3 r04 hs4) (by rw [hml]; rfl) [(.ref a1)] [] rfl (lenOf own_pd7 rfl) rfl (Nat.le_of_eq rfl) (by decide) (by decide) (by decide) (by decide) rfl (hb hby at_265) fun T469 v469 Lc469 X469 hQ469 => ?_
                      obtain ⟨rfl, Nq469, eh469⟩ := hQ469
                      have N469 := Fr.app N467 Nq469
                      show Ends p.tables e below (T469.setTop (mkF m 268 #[.val (.int p0), .val (.int p1), .val (.int p2), .val (.int p3), .val (.int p4), .val (.int p5), .val (.ref a1), .val (.int kd), .val (.int u0), .val (.int u1), .val (.int u2), .val (.int u3), .val (.ref a2), .val (.int (0 : Int32))] [(.int (own_and r1 r2 r3 r4))])) _
                      refine s_iload (pc' := 270) X469.here hx (hb hby at_268) rfl rfl ?_
                      have hk470 : (own_and r1 r2 r3 r4) = (0 : Int32) := by unfold own_and; rw [if_neg (by rw [hy1 hc0]; decide), if_neg (by rw [hy2 hc1]; decide), if_pos (hn3 hc2)]
                      refine s_icmpNo (pc' := 273) X469.here hx (hb hby at_270) (teq hk470).2 rfl ?_
                      refine s_iconst (pc' := 274) X469.here hx (v := (1 : Int32)) (hb hby at_273) rfl rfl ?_
                      refine s_goto (pc' := 278) X469.here hx (hb hby at_274) (by decide) (by decide) ?_
                      obtain ⟨fs, hr, hrun, hended, hRW⟩ := X469.leaveW hS (show _ ≤ T469.heap.size from by rw [eh469]; exact hk) (v := some (.int (1 : Int32))) (fun h => by rw [Bd.returns] at h; cases h)
                      have hfin : CHr Z consts_1 s.vm s.heap T469.vm T469.heap := by rw [hh, eh469]; exact CHr.trans HR411 (CHv.at X469 hZ (own_EW hw) HC412)
                      refine ⟨_, _, retN X469 hx (t := .boolean) Bd.returns (by simp) (hb hby at_278) hr, hrun, hended, _, _, rfl, ?_, hfin, own_rwm hRW (by decide) (by decide)⟩
                      show own_rm0_Q Z p0 p1 p2 p3 p4 p5 cs h0 n0 _ T469.heap _
                      rw [eh469]
                      exact ⟨rfl, N469⟩
                  · refine s_icmpYes (pc' := 246) X460.here hx (hb hby at_215) (feq hc1).2 (by decide) (by decide) ?_
                    refine s_iconst (pc' := 247) X460.here hx (v := (0 : Int32)) (hb hby at_246) rfl rfl ?_
                    refine s_istore (pc' := 249) X460.here hx (l' := #[.val (.int p0), .val (.int p1), .val (.int p2), .val (.int p3), .val (.int p4), .val (.int p5), .val (.ref a1), .val (.int kd), .val (.int u0), .val (.int u1), .val (.int u2), .val (.int u3), .val (.ref a2), .val (.int (0 : Int32))]) (hb hby at_247) rfl rfl ?_
                    refine s_aload (pc' := 251) X460.here hx (hb hby at_249) rfl rfl rfl ?_
                    refine s_aload (pc' := 253) X460.here hx (hb hby at_251) rfl rfl rfl ?_
                    refine s_callV (pc' := 256) (W := 0) X460 hx hZ  hown (hw _ (List.mem_of_getElem? (i := 53) rfl)) (hw _ (List.mem_of_getElem? (i := 54) rfl)) (hw _ (List.mem_of_getElem? (i := 2) rfl)) (hw _ (List.mem_of_getElem? (i := 57) rfl)) (hw _ (List.mem_of_getElem? (i := 56) rfl)) (hw _ (List.mem_of_getElem? (i := 55) rfl)) (by decide) eh460 f414 (own_eqA l Z a0 hw [] a1 a2 cs s1 b1 k1 (own_len p0) (own_tx p0) s2 b2 k2 (own_len p1) (own_tx p1) s3 b3 k3 (own_len p2) (own_tx p2) s4 b4 k4 (own_len p3) (own_tx p3) s5 b5 k5 (own_len u0) (own_tx u0) s6 b6 k6 (own_len u1) (own_tx u1) s7 b7 k7 (own_len u2) (own_tx u2) s8 b8 k8 (own_len u3) (own_tx u3) r1 r2 r3 r4 T408.heap n0 Z452 O413 S_cs hcs Ea2 f431 f432 f433 f434 FmerchantIda2 FrequestIda2 Fmethoda2 Fpatha2 f415 f416 f417 f418 f419 f420 f421 f422 f423 f424 f425 f426 f427 f428 f429 f430 f436 f437 f438 f439 f440 f441 f442 f443 f444 f445 f446 f447 f448 f449 f450 f451 r01 hr1 r02 hr2 r03 hr3 r04 hr4) (by rw [hml]; rfl) [(.ref a2)] [] rfl (lenOf own_pd7 rfl) rfl (Nat.le_of_eq rfl) (by decide) (by decide) (by decide) (by decide) rfl (hb hby at_253) fun T461 v461 Lc461 X461 hQ461 => ?_
                    obtain ⟨rfl, Nq461, eh461⟩ := hQ461
                    have N461 := Fr.app N460 Nq461
                    show Ends p.tables e below (T461.setTop (mkF m 256 #[.val (.int p0), .val (.int p1), .val (.int p2), .val (.int p3), .val (.int p4), .val (.int p5), .val (.ref a1), .val (.int kd), .val (.int u0), .val (.int u1), .val (.int u2), .val (.int u3), .val (.ref a2), .val (.int (0 : Int32))] [(.int (own_and r1 r2 r3 r4))])) _
                    refine s_iload (pc' := 258) X461.here hx (hb hby at_256) rfl rfl ?_
                    have hk462 : (own_and r1 r2 r3 r4) = (0 : Int32) := by unfold own_and; rw [if_neg (by rw [hy1 hc0]; decide), if_pos (hn2 hc1)]
                    refine s_icmpNo (pc' := 261) X461.here hx (hb hby at_258) (teq hk462).2 rfl ?_
                    refine s_aload (pc' := 263) X461.here hx (hb hby at_261) rfl rfl rfl ?_
                    refine s_aload (pc' := 265) X461.here hx (hb hby at_263) rfl rfl rfl ?_
                    refine s_callV (pc' := 268) (W := 0) X461 hx hZ  hown (hw _ (List.mem_of_getElem? (i := 53) rfl)) (hw _ (List.mem_of_getElem? (i := 54) rfl)) (hw _ (List.mem_of_getElem? (i := 2) rfl)) (hw _ (List.mem_of_getElem? (i := 57) rfl)) (hw _ (List.mem_of_getElem? (i := 56) rfl)) (hw _ (List.mem_of_getElem? (i := 55) rfl)) (by decide) eh461 Ea2 (own_eqA l Z a0 hw [] a2 a1 cs s5 b5 k5 (own_len u0) (own_tx u0) s6 b6 k6 (own_len u1) (own_tx u1) s7 b7 k7 (own_len u2) (own_tx u2) s8 b8 k8 (own_len u3) (own_tx u3) s1 b1 k1 (own_len p0) (own_tx p0) s2 b2 k2 (own_len p1) (own_tx p1) s3 b3 k3 (own_len p2) (own_tx p2) s4 b4 k4 (own_len p3) (own_tx p3) r1 r2 r3 r4 T408.heap n0 Z452 O413 S_cs hcs f414 FmerchantIda2 FrequestIda2 Fmethoda2 Fpatha2 f431 f432 f433 f434 f436 f437 f438 f439 f440 f441 f442 f443 f444 f445 f446 f447 f448 f449 f450 f451 f415 f416 f417 f418 f419 f420 f421 f422 f423 f424 f425 f426 f427 f428 f429 f430 r01 hs1 r02 hs2 r03 hs3 r04 hs4) (by rw [hml]; rfl) [(.ref a1)] [] rfl (lenOf own_pd7 rfl) rfl (Nat.le_of_eq rfl) (by decide) (by decide) (by decide) (by decide) rfl (hb hby at_265) fun T463 v463 Lc463 X463 hQ463 => ?_
                    obtain ⟨rfl, Nq463, eh463⟩ := hQ463
                    have N463 := Fr.app N461 Nq463
                    show Ends p.tables e below (T463.setTop (mkF m 268 #[.val (.int p0), .val (.int p1), .val (.int p2), .val (.int p3), .val (.int p4), .val (.int p5), .val (.ref a1), .val (.int kd), .val (.int u0), .val (.int u1), .val (.int u2), .val (.int u3), .val (.ref a2), .val (.int (0 : Int32))] [(.int (own_and r1 r2 r3 r4))])) _
                    refine s_iload (pc' := 270) X463.here hx (hb hby at_268) rfl rfl ?_
                    have hk464 : (own_and r1 r2 r3 r4) = (0 : Int32) := by unfold own_and; rw [if_neg (by rw [hy1 hc0]; decide), if_pos (hn2 hc1)]
                    refine s_icmpNo (pc' := 273) X463.here hx (hb hby at_270) (teq hk464).2 rfl ?_
                    refine s_iconst (pc' := 274) X463.here hx (v := (1 : Int32)) (hb hby at_273) rfl rfl ?_
                    refine s_goto (pc' := 278) X463.here hx (hb hby at_274) (by decide) (by decide) ?_
                    obtain ⟨fs, hr, hrun, hended, hRW⟩ := X463.leaveW hS (show _ ≤ T463.heap.size from by rw [eh463]; exact hk) (v := some (.int (1 : Int32))) (fun h => by rw [Bd.returns] at h; cases h)
                    have hfin : CHr Z consts_1 s.vm s.heap T463.vm T463.heap := by rw [hh, eh463]; exact CHr.trans HR411 (CHv.at X463 hZ (own_EW hw) HC412)
                    refine ⟨_, _, retN X463 hx (t := .boolean) Bd.returns (by simp) (hb hby at_278) hr, hrun, hended, _, _, rfl, ?_, hfin, own_rwm hRW (by decide) (by decide)⟩
                    show own_rm0_Q Z p0 p1 p2 p3 p4 p5 cs h0 n0 _ T463.heap _
                    rw [eh463]
                    exact ⟨rfl, N463⟩
                · refine s_icmpYes (pc' := 246) X454.here hx (hb hby at_203) (feq hc0).2 (by decide) (by decide) ?_
                  refine s_iconst (pc' := 247) X454.here hx (v := (0 : Int32)) (hb hby at_246) rfl rfl ?_
                  refine s_istore (pc' := 249) X454.here hx (l' := #[.val (.int p0), .val (.int p1), .val (.int p2), .val (.int p3), .val (.int p4), .val (.int p5), .val (.ref a1), .val (.int kd), .val (.int u0), .val (.int u1), .val (.int u2), .val (.int u3), .val (.ref a2), .val (.int (0 : Int32))]) (hb hby at_247) rfl rfl ?_
                  refine s_aload (pc' := 251) X454.here hx (hb hby at_249) rfl rfl rfl ?_
                  refine s_aload (pc' := 253) X454.here hx (hb hby at_251) rfl rfl rfl ?_
                  refine s_callV (pc' := 256) (W := 0) X454 hx hZ  hown (hw _ (List.mem_of_getElem? (i := 53) rfl)) (hw _ (List.mem_of_getElem? (i := 54) rfl)) (hw _ (List.mem_of_getElem? (i := 2) rfl)) (hw _ (List.mem_of_getElem? (i := 57) rfl)) (hw _ (List.mem_of_getElem? (i := 56) rfl)) (hw _ (List.mem_of_getElem? (i := 55) rfl)) (by decide) eh454 f414 (own_eqA l Z a0 hw [] a1 a2 cs s1 b1 k1 (own_len p0) (own_tx p0) s2 b2 k2 (own_len p1) (own_tx p1) s3 b3 k3 (own_len p2) (own_tx p2) s4 b4 k4 (own_len p3) (own_tx p3) s5 b5 k5 (own_len u0) (own_tx u0) s6 b6 k6 (own_len u1) (own_tx u1) s7 b7 k7 (own_len u2) (own_tx u2) s8 b8 k8 (own_len u3) (own_tx u3) r1 r2 r3 r4 T408.heap n0 Z452 O413 S_cs hcs Ea2 f431 f432 f433 f434 FmerchantIda2 FrequestIda2 Fmethoda2 Fpatha2 f415 f416 f417 f418 f419 f420 f421 f422 f423 f424 f425 f426 f427 f428 f429 f430 f436 f437 f438 f439 f440 f441 f442 f443 f444 f445 f446 f447 f448 f449 f450 f451 r01 hr1 r02 hr2 r03 hr3 r04 hr4) (by rw [hml]; rfl) [(.ref a2)] [] rfl (lenOf own_pd7 rfl) rfl (Nat.le_of_eq rfl) (by decide) (by decide) (by decide) (by decide) rfl (hb hby at_253) fun T455 v455 Lc455 X455 hQ455 => ?_
                  obtain ⟨rfl, Nq455, eh455⟩ := hQ455
                  have N455 := Fr.app N454 Nq455
                  show Ends p.tables e below (T455.setTop (mkF m 256 #[.val (.int p0), .val (.int p1), .val (.int p2), .val (.int p3), .val (.int p4), .val (.int p5), .val (.ref a1), .val (.int kd), .val (.int u0), .val (.int u1), .val (.int u2), .val (.int u3), .val (.ref a2), .val (.int (0 : Int32))] [(.int (own_and r1 r2 r3 r4))])) _
                  refine s_iload (pc' := 258) X455.here hx (hb hby at_256) rfl rfl ?_
                  have hk456 : (own_and r1 r2 r3 r4) = (0 : Int32) := by unfold own_and; rw [if_pos (hn1 hc0)]
                  refine s_icmpNo (pc' := 261) X455.here hx (hb hby at_258) (teq hk456).2 rfl ?_
                  refine s_aload (pc' := 263) X455.here hx (hb hby at_261) rfl rfl rfl ?_
                  refine s_aload (pc' := 265) X455.here hx (hb hby at_263) rfl rfl rfl ?_
                  refine s_callV (pc' := 268) (W := 0) X455 hx hZ  hown (hw _ (List.mem_of_getElem? (i := 53) rfl)) (hw _ (List.mem_of_getElem? (i := 54) rfl)) (hw _ (List.mem_of_getElem? (i := 2) rfl)) (hw _ (List.mem_of_getElem? (i := 57) rfl)) (hw _ (List.mem_of_getElem? (i := 56) rfl)) (hw _ (List.mem_of_getElem? (i := 55) rfl)) (by decide) eh455 Ea2 (own_eqA l Z a0 hw [] a2 a1 cs s5 b5 k5 (own_len u0) (own_tx u0) s6 b6 k6 (own_len u1) (own_tx u1) s7 b7 k7 (own_len u2) (own_tx u2) s8 b8 k8 (own_len u3) (own_tx u3) s1 b1 k1 (own_len p0) (own_tx p0) s2 b2 k2 (own_len p1) (own_tx p1) s3 b3 k3 (own_len p2) (own_tx p2) s4 b4 k4 (own_len p3) (own_tx p3) r1 r2 r3 r4 T408.heap n0 Z452 O413 S_cs hcs f414 FmerchantIda2 FrequestIda2 Fmethoda2 Fpatha2 f431 f432 f433 f434 f436 f437 f438 f439 f440 f441 f442 f443 f444 f445 f446 f447 f448 f449 f450 f451 f415 f416 f417 f418 f419 f420 f421 f422 f423 f424 f425 f426 f427 f428 f429 f430 r01 hs1 r02 hs2 r03 hs3 r04 hs4) (by rw [hml]; rfl) [(.ref a1)] [] rfl (lenOf own_pd7 rfl) rfl (Nat.le_of_eq rfl) (by decide) (by decide) (by decide) (by decide) rfl (hb hby at_265) fun T457 v457 Lc457 X457 hQ457 => ?_
                  obtain ⟨rfl, Nq457, eh457⟩ := hQ457
                  have N457 := Fr.app N455 Nq457
                  show Ends p.tables e below (T457.setTop (mkF m 268 #[.val (.int p0), .val (.int p1), .val (.int p2), .val (.int p3), .val (.int p4), .val (.int p5), .val (.ref a1), .val (.int kd), .val (.int u0), .val (.int u1), .val (.int u2), .val (.int u3), .val (.ref a2), .val (.int (0 : Int32))] [(.int (own_and r1 r2 r3 r4))])) _
                  refine s_iload (pc' := 270) X457.here hx (hb hby at_268) rfl rfl ?_
                  have hk458 : (own_and r1 r2 r3 r4) = (0 : Int32) := by unfold own_and; rw [if_pos (hn1 hc0)]
                  refine s_icmpNo (pc' := 273) X457.here hx (hb hby at_270) (teq hk458).2 rfl ?_
                  refine s_iconst (pc' := 274) X457.here hx (v := (1 : Int32)) (hb hby at_273) rfl rfl ?_
                  refine s_goto (pc' := 278) X457.here hx (hb hby at_274) (by decide) (by decide) ?_
                  obtain ⟨fs, hr, hrun, hended, hRW⟩ := X457.leaveW hS (show _ ≤ T457.heap.size from by rw [eh457]; exact hk) (v := some (.int (1 : Int32))) (fun h => by rw [Bd.returns] at h; cases h)
                  have hfin : CHr Z consts_1 s.vm s.heap T457.vm T457.heap := by rw [hh, eh457]; exact CHr.trans HR411 (CHv.at X457 hZ (own_EW hw) HC412)
                  refine ⟨_, _, retN X457 hx (t := .boolean) Bd.returns (by simp) (hb hby at_278) hr, hrun, hended, _, _, rfl, ?_, hfin, own_rwm hRW (by decide) (by decide)⟩
                  show own_rm0_Q Z p0 p1 p2 p3 p4 p5 cs h0 n0 _ T457.heap _
                  rw [eh457]
                  exact ⟨rfl, N457⟩
set_option maxRecDepth 65536 in
set_option maxHeartbeats 40000000 in
theorem comes_1 {Post : Tables → Env → Array Value → State → Outcome → State → Prop} (hpost : ∀ tb e args s v u, (limb_1_1.after args s (.returned v) u = true ∧ limb_1_2.after args s (.returned v) u = true ∧ True) → ReturnedEndW s (.returned v) u (Jvm.fieldLocs frame_1_writes args s ++ Jvm.arrayLocs frame_1_arrays args s ++ Jvm.staticLocs frame_1_statics s) 72 5376 → Post tb e args s (.returned v) u) :
    ArmFor flags0 classFile x code maxLocals ret World_1 tables_1 room_1 Calls_1 rest_1 Pre_1 Post := by
  intro l hfl _ _ p e ha hc hk s m args below hf hA hF happ hP
  obtain ⟨hcalls, hrest, hpre⟩ := hP
  obtain ⟨-, -, -, hnamed, -, -, -, hat⟩ := (Spec.applies_iff hf).mp happ
  obtain ⟨hg, hn⟩ := and_e (Cond.before_iff.mp (show (Jvm.Cond.and given_1 narrow_1).before args s = true from hpre))
  obtain ⟨gg2, gg3⟩ := and_e hg
  obtain ⟨gg4, gg5⟩ := and_e gg3
  obtain ⟨gg6, gg7⟩ := and_e gg5
  obtain ⟨gg8, gg9⟩ := and_e gg7
  obtain ⟨gg10, gg11⟩ := and_e gg9
  obtain ⟨gg12, gg13⟩ := and_e gg11
  obtain ⟨w0, w1, w2, w3, w4, w5, rfl⟩ : ∃ w0 w1 w2 w3 w4 w5 : Value, args = #[w0, w1, w2, w3, w4, w5] := by
    have hs : args.size = 6 := by simpa [Cond.value, given_1] using gg2
    obtain ⟨L⟩ := args
    match L, hs with
    | [w0, w1, w2, w3, w4, w5], _ => exact ⟨w0, w1, w2, w3, w4, w5, rfl⟩
  have hw := fun d (hd : d ∈ tables_1) => atoms_spec (ws := Jvm.Cond.code x code maxLocals ret :: tables_1) hat d (List.mem_cons_of_mem _ hd)
  have hfit : Fit s := fun {y c} hc i hi => by
    obtain ⟨ha, rfl⟩ := Array.getElem?_eq_some_iff.mp hc
    have q := List.all_eq_true.mp ((Array.all_eq_true_iff_forall_mem.mp hF) _ (Array.getElem_mem ha)) i (List.mem_range.mpr hi)
    simpa [Array.getElem?_eq_getElem hi] using q
  obtain ⟨hsets, hown0⟩ := atoms_of _ (rest_1_c_eq ▸ (show rest_1_c.before _ s = true from hrest))
  have hr0 := Cond.before_iff.mp hown0
  obtain ⟨i0, ei0⟩ := is_v gg4
  obtain rfl : w0 = (.int i0) := Option.some.inj ei0
  obtain ⟨i1, ei1⟩ := is_v gg6
  obtain rfl : w1 = (.int i1) := Option.some.inj ei1
  obtain ⟨i2, ei2⟩ := is_v gg8
  obtain rfl : w2 = (.int i2) := Option.some.inj ei2
  obtain ⟨i3, ei3⟩ := is_v gg10
  obtain rfl : w3 = (.int i3) := Option.some.inj ei3
  obtain ⟨i4, ei4⟩ := is_v gg12
  obtain rfl : w4 = (.int i4) := Option.some.inj ei4
  obtain ⟨i5, ei5⟩ := is_v gg13
  obtain rfl : w5 = (.int i5) := Option.some.inj ei5
  obtain ⟨cs, evcs⟩ := is_v (Cond.before_iff.mp (hsets _ (List.mem_of_getElem? (i := 1) rfl)))
  have S_cs := Sta.start evcs (Or.inl (hsets _ (List.mem_of_getElem? (i := 0) rfl)))
  have hcs : ¬ cs = (0 : Int32) := fun q_ => by
    have z_ := (Cond.before_iff.mp (hsets _ (List.mem_of_getElem? (i := 2) rfl)))
    subst q_
    simp [Cond.value, evcs, Term.int_eval] at z_
  have hcv : CHv s consts_1 s.vm s.heap := CHv.start (own_EW hw) (fun p_ hp_ => hcalls.1 p_ hp_) (hsets _ (List.mem_of_getElem? (i := 2) rfl)) (hw _ (List.mem_of_getElem? (i := 22) rfl)) (hw _ (List.mem_of_getElem? (i := 8) rfl))
  obtain ⟨n, o, h1, h2, h3, _, L, rfl, ⟨rfl, N⟩, _, hq⟩ := own_rm0 l s _ hw tables_1 i0 i1 i2 i3 i4 i5 cs s.heap s.heap.size (Nat.le_refl _) (Old.start s) S_cs hcs p e ha hc hk s m _ below hf ((Spec.applies_iff_loose hf).mp happ).1 ⟨rfl, State.Warmed39.refl s, rfl, hcv, fun _ q_ => nomatch q_⟩ trivial
  refine ⟨n, _, h1, h2, h3, hpost _ _ _ _ _ _ ⟨Cond.after_iff.mpr rfl, Cond.after_iff.mpr (eq_i res_at (Term.int_eval (1)) rfl), trivial⟩ ⟨hq.1, hq.2.1, hq.2.2.1, (hq.2.2.2.sift fun y hy => Or.inr (N y hy)).mono (by decide) (by decide)⟩⟩
theorem main_1_1 : Claimed_1_1 := comes_1 fun _ _ _ _ _ _ h hF => ⟨h.1, hF⟩
theorem main_1_2 : Claimed_1_2 := comes_1 fun _ _ _ _ _ _ h hF => ⟨h.2.1, hF⟩
end Jvm.Pilot.@@N@@
namespace Jvm.Pilot.@@N@@
open Jvm Jvm.ClassFile Sem Op Lib Jvm.Free Jvm.Stand Jvm.Pilot.@@N@@.Jvm.D
/-! MADE BY PROGRAM (witnessworld.py) out of the Statement's table words and the real class files: 21 classes; the members and pool entries that the words name. The judged class is class 1, her method 3. -/
namespace start1
open Jvm.ClassFile
def u (s : String) : CpInfo := .utf8 (stringToUtf16 s)
/-- a pool by its gaps: so many unusable entries, then the entry; so many at the end -/
def gap : Nat → List CpInfo → List CpInfo
  | 0, r => r
  | n + 1, r => .unusable :: gap n r
def poolList (es : List (Nat × CpInfo)) (last : Nat) : List CpInfo := es.foldr (fun e r => gap e.1 (e.2 :: r)) (gap last [])
def pool (es : List (Nat × CpInfo)) (last : Nat) : Array CpInfo := ⟨poolList es last⟩
def fileOf (pool : Array CpInfo) (this : Nat) (attrs : Array Attribute := #[]) (ms : Array MethodInfo := #[]) (fl : Nat := 33) (sup : Nat := 0) (ifs : Array Nat := #[]) (fds : Array FieldInfo := #[]) : ClassFile where
  minorVersion := 0
  majorVersion := 65
  constantPool := pool
  accessFlags := fl
  thisClass := this
  superClass := sup
  interfaces := ifs
  fields := fds
  methods := ms
  attributes := attrs
def plain (name : String) (sup : Option ClassId) : Class where
  name := name
  kind := .ordinary
  loader := none
  accessFlags := 33
  super := sup
  interfaces := #[]
  cf := none
  fields := #[]
  methods := #[]
  instanceTypes := #[]
  staticTypes := #[]
  resolved := #[]
  callSites := []
  init := .initialized
  statics := none
  mirror := none

def pool0 : Array CpInfo := pool [(5, u "<init>"), (0, u "()V"), (1, .class_ 10), (1, u "java/lang/Object")] 113

def k0c0 : Code := { maxStack := 0, maxLocals := 1, code := object_method_1_code, exceptionTable := #[], attributes := #[] }
def k0m0 : Method := { name := "<init>", desc := "()V", sig := { parameters := [], returnType := none }, accessFlags := 1, code := some k0c0 }
/-- java/lang/Object -/
def k0 : Class := { plain "java/lang/Object" none with
  accessFlags := 33
  interfaces := #[]
  cf := some (fileOf pool0 8 #[] #[{ accessFlags := 1, nameIndex := 5, descriptorIndex := 6, attributes := #[] }] 33 0 #[] #[])
  fields := #[]
  methods := #[k0m0]
  instanceTypes := #[]
  staticTypes := #[]
  resolved := Array.replicate 124 none
  statics := none }

def pool1 : Array CpInfo := pool [(2, .class_ 4), (1, u "java/lang/Object"), (0, u "<init>"), (0, u "()V"), (0, .class_ 8), (0, u "java/lang/String"), (0, .methodref 7 10), (0, .nameAndType 5 11), (0, u "([C)V"), (0, .integer 65536), (0, .integer 131072), (0, .integer 65535), (0, .class_ 16), (0, u "com/example/prudent_till/prudenttill/model/RequestKey"), (0, .methodref 18 19), (0, .class_ 20), (0, .nameAndType 21 22), (0, u "com/example/prudent_till/prudenttill/model/RequestKeyEqualsPinLaw"), (0, u "str"), (0, u "(I)Ljava/lang/String;"), (0, .methodref 15 24), (0, .nameAndType 5 25), (0, u "(Ljava/lang/String;Ljava/lang/String;Ljava/lang/String;Ljava/lang/String;)V"), (0, .methodref 15 27), (0, .nameAndType 28 29), (0, u "equals"), (0, u "(Ljava/lang/Object;)Z"), (0, .methodref 18 31), (0, .nameAndType 32 33), (0, u "canon"), (0, u "(I)I"), (3, u "law"), (0, u "(IIIIII)Z")] 2

def k1m0 : Method := { name := "<init>", desc := "()V", sig := { parameters := [], returnType := none }, accessFlags := 1, code := none }
def k1c1 : Code := { maxStack := 4, maxLocals := 4, code := method_2_code, exceptionTable := #[], attributes := #[] }
def k1m1 : Method := { name := "str", desc := "(I)Ljava/lang/String;", sig := { parameters := [.int], returnType := some (.object "java/lang/String") }, accessFlags := 10, code := some k1c1 }
def k1c2 : Code := { maxStack := 3, maxLocals := 2, code := method_3_code, exceptionTable := #[], attributes := #[] }
def k1m2 : Method := { name := "canon", desc := "(I)I", sig := { parameters := [.int], returnType := some .int }, accessFlags := 10, code := some k1c2 }
def k1c3 : Code := { maxStack := 6, maxLocals := 14, code := code, exceptionTable := #[], attributes := #[] }
def k1m3 : Method := { name := "law", desc := "(IIIIII)Z", sig := { parameters := [.int, .int, .int, .int, .int, .int], returnType := some .boolean }, accessFlags := 9, code := some k1c3 }
/-- com/example/prudent_till/prudenttill/model/RequestKeyEqualsPinLaw -/
def k1 : Class := { plain "com/example/prudent_till/prudenttill/model/RequestKeyEqualsPinLaw" (some 0) with
  accessFlags := 49
  interfaces := #[]
  cf := some (fileOf pool1 18 #[] #[{ accessFlags := 1, nameIndex := 5, descriptorIndex := 6, attributes := #[] }, { accessFlags := 10, nameIndex := 21, descriptorIndex := 22, attributes := #[] }, { accessFlags := 10, nameIndex := 32, descriptorIndex := 33, attributes := #[] }, { accessFlags := 9, nameIndex := 37, descriptorIndex := 38, attributes := #[] }] 49 2 #[] #[])
  fields := #[]
  methods := #[k1m0, k1m1, k1m2, k1m3]
  instanceTypes := #[]
  staticTypes := #[]
  resolved := Array.replicate 41 none
  statics := none }

def pool2 : Array CpInfo := pool [(1, .methodref 2 3), (0, .class_ 4), (0, .nameAndType 5 6), (0, u "java/lang/Object"), (0, u "<init>"), (0, u "()V"), (0, .string 8), (0, u "merchantId"), (0, .methodref 10 11), (0, .class_ 12), (0, .nameAndType 13 14), (0, u "java/util/Objects"), (0, u "requireNonNull"), (0, u "(Ljava/lang/Object;Ljava/lang/String;)Ljava/lang/Object;"), (0, .class_ 16), (0, u "java/lang/String"), (0, .fieldref 18 19), (0, .class_ 20), (0, .nameAndType 8 21), (0, u "com/example/prudent_till/prudenttill/model/RequestKey"), (0, u "Ljava/lang/String;"), (0, .string 23), (0, u "requestId"), (0, .fieldref 18 25), (0, .nameAndType 23 21), (0, .string 27), (0, u "method"), (0, .fieldref 18 29), (0, .nameAndType 27 21), (0, .string 31), (0, u "path"), (0, .fieldref 18 33), (0, .nameAndType 31 21), (0, .methodref 15 35), (0, .nameAndType 36 37), (0, u "equals"), (0, u "(Ljava/lang/Object;)Z"), (4, u "(Ljava/lang/String;Ljava/lang/String;Ljava/lang/String;Ljava/lang/String;)V")] 12

def k2c0 : Code := { maxStack := 3, maxLocals := 5, code := prog_59_method_1_code, exceptionTable := #[], attributes := #[] }
def k2m0 : Method := { name := "<init>", desc := "(Ljava/lang/String;Ljava/lang/String;Ljava/lang/String;Ljava/lang/String;)V", sig := { parameters := [(.object "java/lang/String"), (.object "java/lang/String"), (.object "java/lang/String"), (.object "java/lang/String")], returnType := none }, accessFlags := 1, code := some k2c0 }
def k2c1 : Code := { maxStack := 2, maxLocals := 3, code := prog_59_method_6_code, exceptionTable := #[], attributes := #[] }
def k2m1 : Method := { name := "equals", desc := "(Ljava/lang/Object;)Z", sig := { parameters := [(.object "java/lang/Object")], returnType := some .boolean }, accessFlags := 1, code := some k2c1 }
/-- com/example/prudent_till/prudenttill/model/RequestKey -/
def k2 : Class := { plain "com/example/prudent_till/prudenttill/model/RequestKey" (some 0) with
  accessFlags := 49
  interfaces := #[]
  cf := some (fileOf pool2 18 #[] #[{ accessFlags := 1, nameIndex := 5, descriptorIndex := 42, attributes := #[] }, { accessFlags := 1, nameIndex := 36, descriptorIndex := 37, attributes := #[] }] 49 2 #[] #[{ accessFlags := 18, nameIndex := 8, descriptorIndex := 21, attributes := #[] }, { accessFlags := 18, nameIndex := 23, descriptorIndex := 21, attributes := #[] }, { accessFlags := 18, nameIndex := 27, descriptorIndex := 21, attributes := #[] }, { accessFlags := 18, nameIndex := 31, descriptorIndex := 21, attributes := #[] }])
  fields := #[{ name := "merchantId", type := (.object "java/lang/String"), accessFlags := 18, slot := 0, constantValue := 0 }, { name := "requestId", type := (.object "java/lang/String"), accessFlags := 18, slot := 1, constantValue := 0 }, { name := "method", type := (.object "java/lang/String"), accessFlags := 18, slot := 2, constantValue := 0 }, { name := "path", type := (.object "java/lang/String"), accessFlags := 18, slot := 3, constantValue := 0 }]
  methods := #[k2m0, k2m1]
  instanceTypes := #[(.object "java/lang/String"), (.object "java/lang/String"), (.object "java/lang/String"), (.object "java/lang/String")]
  staticTypes := #[]
  resolved := Array.replicate 55 none
  statics := none }

def pool3 : Array CpInfo := pool [(1, .class_ 2), (0, u "java/io/Serializable"), (0, .class_ 4), (0, u "java/lang/Object")] 2

/-- java/io/Serializable -/
def k3 : Class := { plain "java/io/Serializable" (some 0) with
  accessFlags := 1537
  interfaces := #[]
  cf := some (fileOf pool3 1 #[] #[] 1537 3 #[] #[])
  fields := #[]
  methods := #[]
  instanceTypes := #[]
  staticTypes := #[]
  resolved := Array.replicate 7 none
  statics := none }

def pool4 : Array CpInfo := pool [(1, .class_ 2), (0, u "java/lang/Comparable"), (0, .class_ 4), (0, u "java/lang/Object")] 7

/-- java/lang/Comparable -/
def k4 : Class := { plain "java/lang/Comparable" (some 0) with
  accessFlags := 1537
  interfaces := #[]
  cf := some (fileOf pool4 1 #[] #[] 1537 3 #[] #[])
  fields := #[]
  methods := #[]
  instanceTypes := #[]
  staticTypes := #[]
  resolved := Array.replicate 12 none
  statics := none }

def pool5 : Array CpInfo := pool [(2, .class_ 4), (1, u "java/lang/CharSequence"), (42, .class_ 48), (0, u "java/lang/CharSequence$1CodePointIterator"), (10, .class_ 60), (0, u "java/lang/CharSequence$1CharIterator"), (5, .class_ 67), (0, u "java/lang/Object")] 63

/-- java/lang/CharSequence -/
def k5 : Class := { plain "java/lang/CharSequence" (some 0) with
  accessFlags := 1537
  interfaces := #[]
  cf := some (fileOf pool5 2 #[.nestMembers #[47, 59]] #[] 1537 66 #[] #[])
  fields := #[]
  methods := #[]
  instanceTypes := #[]
  staticTypes := #[]
  resolved := Array.replicate 131 none
  statics := none }

def pool6 : Array CpInfo := pool [(1, .class_ 2), (0, u "java/lang/constant/Constable"), (0, .class_ 4), (0, u "java/lang/Object")] 6

/-- java/lang/constant/Constable -/
def k6 : Class := { plain "java/lang/constant/Constable" (some 0) with
  accessFlags := 1537
  interfaces := #[]
  cf := some (fileOf pool6 1 #[] #[] 1537 3 #[] #[])
  fields := #[]
  methods := #[]
  instanceTypes := #[]
  staticTypes := #[]
  resolved := Array.replicate 11 none
  statics := none }

def pool7 : Array CpInfo := pool [(1, .class_ 2), (0, u "java/lang/constant/ConstantDesc"), (0, .class_ 4), (0, u "java/lang/Object")] 32

/-- java/lang/constant/ConstantDesc -/
def k7 : Class := { plain "java/lang/constant/ConstantDesc" (some 0) with
  accessFlags := 1537
  interfaces := #[]
  cf := some (fileOf pool7 1 #[] #[] 1537 3 #[] #[])
  fields := #[]
  methods := #[]
  instanceTypes := #[]
  staticTypes := #[]
  resolved := Array.replicate 37 none
  statics := none }

def pool8 : Array CpInfo := pool [(1, .methodref 2 3), (0, .class_ 4), (0, .nameAndType 5 6), (0, u "java/lang/Object"), (0, u "<init>"), (0, u "()V"), (0, .string 8), (0, u ""), (0, .fieldref 10 11), (0, .class_ 12), (0, .nameAndType 13 14), (0, u "java/lang/String"), (0, u "value"), (0, u "[B"), (0, .fieldref 10 16), (0, .nameAndType 17 18), (0, u "coder"), (0, u "B"), (2, u "hash"), (0, u "I"), (2, u "hashIsZero"), (0, u "Z"), (0, .methodref 10 28), (0, .nameAndType 5 29), (0, u "([CIILjava/lang/Void;)V"), (8, .fieldref 10 39), (0, .nameAndType 40 26), (0, u "COMPACT_STRINGS"), (1, .class_ 44), (1, u "java/lang/StringUTF16"), (0, u "compress"), (1, .methodref 42 48), (0, .nameAndType 49 50), (0, u "coderFromArrayLen"), (0, u "([BI)B"), (56, .class_ 109), (1, u "java/lang/StringLatin1"), (67, .methodref 42 178), (0, .nameAndType 45 179), (0, u "([CII)[B"), (361, .methodref 107 542), (0, .nameAndType 543 544), (0, u "equals"), (0, u "([B[B)Z"), (28, u "(Ljava/lang/Object;)Z"), (1, .class_ 576), (0, u "java/lang/CharSequence"), (22, u "CASE_INSENSITIVE_ORDER"), (0, u "Ljava/util/Comparator;"), (409, u "([C)V"), (90, u "serialPersistentFields"), (0, u "[Ljava/io/ObjectStreamField;"), (0, .class_ 1104), (0, u "java/lang/String$CaseInsensitiveComparator"), (1, .class_ 1107), (0, u "java/io/Serializable"), (0, .class_ 1109), (0, u "java/lang/Comparable"), (0, .class_ 1111), (0, u "java/lang/constant/Constable"), (0, .class_ 1113), (0, u "java/lang/constant/ConstantDesc"), (2, u "serialVersionUID"), (0, u "J"), (3, u "REPL"), (0, u "C"), (2, u "LATIN1"), (1, u "UTF16")] 323

def k8m0 : Method := { name := "<init>", desc := "()V", sig := { parameters := [], returnType := none }, accessFlags := 1, code := none }
def k8c1 : Code := { maxStack := 5, maxLocals := 2, code := jdk_42_method_3_code, exceptionTable := #[], attributes := #[] }
def k8m1 : Method := { name := "<init>", desc := "([C)V", sig := { parameters := [(.array .char)], returnType := none }, accessFlags := 1, code := some k8c1 }
def k8c2 : Code := { maxStack := 2, maxLocals := 3, code := jdk_42_method_66_code, exceptionTable := #[], attributes := #[] }
def k8m2 : Method := { name := "equals", desc := "(Ljava/lang/Object;)Z", sig := { parameters := [(.object "java/lang/Object")], returnType := some .boolean }, accessFlags := 1, code := some k8c2 }
def k8c3 : Code := { maxStack := 4, maxLocals := 6, code := jdk_42_method_149_code, exceptionTable := #[], attributes := #[] }
def k8m3 : Method := { name := "<init>", desc := "([CIILjava/lang/Void;)V", sig := { parameters := [(.array .char), .int, .int, (.object "java/lang/Void")], returnType := none }, accessFlags := 2, code := some k8c3 }
/-- java/lang/String -/
def k8 : Class := { plain "java/lang/String" (some 0) with
  accessFlags := 49
  interfaces := #[3, 4, 5, 6, 7]
  cf := some (fileOf pool8 10 #[.nestMembers #[1103]] #[{ accessFlags := 1, nameIndex := 5, descriptorIndex := 6, attributes := #[] }, { accessFlags := 1, nameIndex := 5, descriptorIndex := 1010, attributes := #[] }, { accessFlags := 1, nameIndex := 543, descriptorIndex := 573, attributes := #[] }, { accessFlags := 2, nameIndex := 5, descriptorIndex := 29, attributes := #[] }] 49 2 #[1106, 1108, 575, 1110, 1112] #[{ accessFlags := 18, nameIndex := 13, descriptorIndex := 14, attributes := #[] }, { accessFlags := 18, nameIndex := 17, descriptorIndex := 18, attributes := #[] }, { accessFlags := 2, nameIndex := 21, descriptorIndex := 22, attributes := #[] }, { accessFlags := 2, nameIndex := 25, descriptorIndex := 26, attributes := #[] }, { accessFlags := 26, nameIndex := 1116, descriptorIndex := 1117, attributes := #[] }, { accessFlags := 24, nameIndex := 40, descriptorIndex := 26, attributes := #[] }, { accessFlags := 26, nameIndex := 1101, descriptorIndex := 1102, attributes := #[] }, { accessFlags := 26, nameIndex := 1121, descriptorIndex := 1122, attributes := #[] }, { accessFlags := 25, nameIndex := 599, descriptorIndex := 600, attributes := #[] }, { accessFlags := 24, nameIndex := 1125, descriptorIndex := 18, attributes := #[] }, { accessFlags := 24, nameIndex := 1127, descriptorIndex := 18, attributes := #[] }])
  fields := #[{ name := "value", type := (.array .byte), accessFlags := 18, slot := 0, constantValue := 0 }, { name := "coder", type := .byte, accessFlags := 18, slot := 1, constantValue := 0 }, { name := "hash", type := .int, accessFlags := 2, slot := 2, constantValue := 0 }, { name := "hashIsZero", type := .boolean, accessFlags := 2, slot := 3, constantValue := 0 }, { name := "serialVersionUID", type := .long, accessFlags := 26, slot := 0, constantValue := 0 }, { name := "COMPACT_STRINGS", type := .boolean, accessFlags := 24, slot := 1, constantValue := 0 }, { name := "serialPersistentFields", type := (.array (.object "java/io/ObjectStreamField")), accessFlags := 26, slot := 2, constantValue := 0 }, { name := "REPL", type := .char, accessFlags := 26, slot := 3, constantValue := 0 }, { name := "CASE_INSENSITIVE_ORDER", type := (.object "java/util/Comparator"), accessFlags := 25, slot := 4, constantValue := 0 }, { name := "LATIN1", type := .byte, accessFlags := 24, slot := 5, constantValue := 0 }, { name := "UTF16", type := .byte, accessFlags := 24, slot := 6, constantValue := 0 }]
  methods := #[k8m0, k8m1, k8m2, k8m3]
  instanceTypes := #[(.array .byte), .byte, .int, .boolean]
  staticTypes := #[.long, .boolean, (.array (.object "java/io/ObjectStreamField")), .char, (.object "java/util/Comparator"), .byte, .byte]
  resolved := Array.replicate 1451 none
  statics := some 0 }

def pool9 : Array CpInfo := pool [(2, .class_ 4), (1, u "java/lang/Object"), (0, u "<init>"), (0, u "()V"), (35, .class_ 44), (1, u "java/util/Objects"), (0, u "requireNonNull"), (48, u "(Ljava/lang/Object;Ljava/lang/String;)Ljava/lang/Object;")] 89

def k9m0 : Method := { name := "<init>", desc := "()V", sig := { parameters := [], returnType := none }, accessFlags := 2, code := none }
def k9c1 : Code := { maxStack := 3, maxLocals := 2, code := jdk_31_method_11_code, exceptionTable := #[], attributes := #[] }
def k9m1 : Method := { name := "requireNonNull", desc := "(Ljava/lang/Object;Ljava/lang/String;)Ljava/lang/Object;", sig := { parameters := [(.object "java/lang/Object"), (.object "java/lang/String")], returnType := some (.object "java/lang/Object") }, accessFlags := 9, code := some k9c1 }
/-- java/util/Objects -/
def k9 : Class := { plain "java/util/Objects" (some 0) with
  accessFlags := 49
  interfaces := #[]
  cf := some (fileOf pool9 42 #[] #[{ accessFlags := 2, nameIndex := 5, descriptorIndex := 6, attributes := #[] }, { accessFlags := 9, nameIndex := 45, descriptorIndex := 94, attributes := #[] }] 49 2 #[] #[])
  fields := #[]
  methods := #[k9m0, k9m1]
  instanceTypes := #[]
  staticTypes := #[]
  resolved := Array.replicate 184 none
  statics := none }

def pool10 : Array CpInfo := pool [(4, .class_ 6), (1, u "java/lang/Object"), (0, u "<init>"), (0, u "()V"), (5, .class_ 16), (1, u "java/lang/StringLatin1"), (104, u "$assertionsDisabled"), (0, u "Z"), (98, .class_ 223), (1, u "java/lang/StringLatin1$LinesSpliterator"), (57, u "equals"), (0, u "([B[B)Z"), (107, .class_ 391), (0, u "java/lang/StringLatin1$CharsSpliterator")] 3

def k10m0 : Method := { name := "<init>", desc := "()V", sig := { parameters := [], returnType := none }, accessFlags := 0, code := none }
def k10c1 : Code := { maxStack := 3, maxLocals := 3, code := jdk_43_method_13_code, exceptionTable := #[], attributes := #[] }
def k10m1 : Method := { name := "equals", desc := "([B[B)Z", sig := { parameters := [(.array .byte), (.array .byte)], returnType := some .boolean }, accessFlags := 9, code := some k10c1 }
/-- java/lang/StringLatin1 -/
def k10 : Class := { plain "java/lang/StringLatin1" (some 0) with
  accessFlags := 48
  interfaces := #[]
  cf := some (fileOf pool10 14 #[.nestMembers #[390, 221]] #[{ accessFlags := 0, nameIndex := 7, descriptorIndex := 8, attributes := #[] }, { accessFlags := 9, nameIndex := 281, descriptorIndex := 282, attributes := #[] }] 48 4 #[] #[{ accessFlags := 4120, nameIndex := 121, descriptorIndex := 122, attributes := #[] }])
  fields := #[{ name := "$assertionsDisabled", type := .boolean, accessFlags := 4120, slot := 0, constantValue := 0 }]
  methods := #[k10m0, k10m1]
  instanceTypes := #[]
  staticTypes := #[.boolean]
  resolved := Array.replicate 395 none
  statics := none }

def pool11 : Array CpInfo := pool [(6, .class_ 8), (1, u "java/lang/Object"), (0, u "<init>"), (0, u "()V"), (1, .class_ 14), (1, u "java/lang/StringUTF16"), (31, u "$assertionsDisabled"), (0, u "Z"), (13, u "HI_BYTE_SHIFT"), (0, u "I"), (2, u "LO_BYTE_SHIFT"), (49, .methodref 12 116), (0, .nameAndType 117 118), (0, u "compress"), (0, u "([CI[BII)I"), (3, u "([CII)[B"), (138, u "coderFromArrayLen"), (0, u "([BI)B"), (106, .class_ 371), (1, u "java/lang/StringUTF16$LinesSpliterator"), (58, u "MAX_LENGTH"), (196, .class_ 628), (0, u "java/lang/StringUTF16$CodePointsSpliterator"), (0, .class_ 630), (0, u "java/lang/StringUTF16$CharsSpliterator")] 4

def k11m0 : Method := { name := "<init>", desc := "()V", sig := { parameters := [], returnType := none }, accessFlags := 0, code := none }
def k11c1 : Code := { maxStack := 2, maxLocals := 2, code := jdk_52_method_15_code, exceptionTable := #[], attributes := #[] }
def k11m1 : Method := { name := "coderFromArrayLen", desc := "([BI)B", sig := { parameters := [(.array .byte), .int], returnType := some .byte }, accessFlags := 8, code := some k11c1 }
def k11c2 : Code := { maxStack := 5, maxLocals := 6, code := jdk_52_method_16_code, exceptionTable := #[], attributes := #[] }
def k11m2 : Method := { name := "compress", desc := "([CII)[B", sig := { parameters := [(.array .char), .int, .int], returnType := some (.array .byte) }, accessFlags := 9, code := some k11c2 }
def k11c3 : Code := { maxStack := 3, maxLocals := 7, code := jdk_52_method_21_code, exceptionTable := #[], attributes := #[] }
def k11m3 : Method := { name := "compress", desc := "([CI[BII)I", sig := { parameters := [(.array .char), .int, (.array .byte), .int, .int], returnType := some .int }, accessFlags := 9, code := some k11c3 }
/-- java/lang/StringUTF16 -/
def k11 : Class := { plain "java/lang/StringUTF16" (some 0) with
  accessFlags := 48
  interfaces := #[]
  cf := some (fileOf pool11 12 #[.nestMembers #[627, 629, 369]] #[{ accessFlags := 0, nameIndex := 9, descriptorIndex := 10, attributes := #[] }, { accessFlags := 8, nameIndex := 261, descriptorIndex := 262, attributes := #[] }, { accessFlags := 9, nameIndex := 117, descriptorIndex := 122, attributes := #[] }, { accessFlags := 9, nameIndex := 117, descriptorIndex := 118, attributes := #[] }] 48 6 #[] #[{ accessFlags := 26, nameIndex := 61, descriptorIndex := 62, attributes := #[] }, { accessFlags := 26, nameIndex := 65, descriptorIndex := 62, attributes := #[] }, { accessFlags := 24, nameIndex := 430, descriptorIndex := 62, attributes := #[] }, { accessFlags := 4120, nameIndex := 46, descriptorIndex := 47, attributes := #[] }])
  fields := #[{ name := "HI_BYTE_SHIFT", type := .int, accessFlags := 26, slot := 0, constantValue := 0 }, { name := "LO_BYTE_SHIFT", type := .int, accessFlags := 26, slot := 1, constantValue := 0 }, { name := "MAX_LENGTH", type := .int, accessFlags := 24, slot := 2, constantValue := 0 }, { name := "$assertionsDisabled", type := .boolean, accessFlags := 4120, slot := 3, constantValue := 0 }]
  methods := #[k11m0, k11m1, k11m2, k11m3]
  instanceTypes := #[]
  staticTypes := #[.int, .int, .int, .boolean]
  resolved := Array.replicate 635 none
  statics := none }

def pool12 : Array CpInfo := pool [(2, .class_ 4), (1, u "java/lang/Object"), (0, u "<init>"), (0, u "()V"), (17, .class_ 26), (1, u "jdk/internal/util/Preconditions"), (28, .class_ 56), (0, u "jdk/internal/util/Preconditions$4"), (57, .class_ 115), (0, u "jdk/internal/util/Preconditions$1"), (7, u "SIOOBE_FORMATTER"), (0, u "Ljava/util/function/BiFunction;"), (0, .class_ 126), (0, u "jdk/internal/util/Preconditions$2"), (3, u "AIOOBE_FORMATTER"), (0, .class_ 132), (0, u "jdk/internal/util/Preconditions$3"), (3, u "IOOBE_FORMATTER")] 57

def k12m0 : Method := { name := "<init>", desc := "()V", sig := { parameters := [], returnType := none }, accessFlags := 1, code := none }
/-- jdk/internal/util/Preconditions -/
def k12 : Class := { plain "jdk/internal/util/Preconditions" (some 0) with
  accessFlags := 33
  interfaces := #[]
  cf := some (fileOf pool12 24 #[.nestMembers #[55, 131, 125, 114]] #[{ accessFlags := 1, nameIndex := 5, descriptorIndex := 6, attributes := #[] }] 33 2 #[] #[{ accessFlags := 25, nameIndex := 123, descriptorIndex := 124, attributes := #[] }, { accessFlags := 25, nameIndex := 130, descriptorIndex := 124, attributes := #[] }, { accessFlags := 25, nameIndex := 136, descriptorIndex := 124, attributes := #[] }])
  fields := #[{ name := "SIOOBE_FORMATTER", type := (.object "java/util/function/BiFunction"), accessFlags := 25, slot := 0, constantValue := 0 }, { name := "AIOOBE_FORMATTER", type := (.object "java/util/function/BiFunction"), accessFlags := 25, slot := 1, constantValue := 0 }, { name := "IOOBE_FORMATTER", type := (.object "java/util/function/BiFunction"), accessFlags := 25, slot := 2, constantValue := 0 }]
  methods := #[k12m0]
  instanceTypes := #[]
  staticTypes := #[(.object "java/util/function/BiFunction"), (.object "java/util/function/BiFunction"), (.object "java/util/function/BiFunction")]
  resolved := Array.replicate 194 none
  statics := some 1 }

def pool13 : Array CpInfo := pool [(9, u "<init>"), (6, .class_ 18), (1, u "java/lang/Object"), (0, u "()V"), (1, .class_ 23), (1, u "jdk/internal/util/ArraysSupport"), (0, u "LOG2_ARRAY_LONG_INDEX_SCALE"), (0, u "I"), (2, u "U"), (0, u "Ljdk/internal/misc/Unsafe;"), (8, u "BIG_ENDIAN"), (0, u "Z"), (8, u "LOG2_BYTE_BIT_SIZE"), (4, u "LOG2_ARRAY_INT_INDEX_SCALE"), (54, u "JLA"), (0, u "Ljdk/internal/access/JavaLangAccess;"), (11, u "LOG2_ARRAY_BOOLEAN_INDEX_SCALE"), (9, u "LOG2_ARRAY_BYTE_INDEX_SCALE"), (5, u "LOG2_ARRAY_CHAR_INDEX_SCALE"), (5, u "LOG2_ARRAY_SHORT_INDEX_SCALE"), (18, u "LOG2_ARRAY_FLOAT_INDEX_SCALE"), (24, u "LOG2_ARRAY_DOUBLE_INDEX_SCALE"), (89, u "T_BOOLEAN"), (2, u "T_CHAR"), (1, u "T_FLOAT"), (1, u "T_DOUBLE"), (1, u "T_BYTE"), (1, u "T_SHORT"), (1, u "T_INT"), (1, u "T_LONG"), (1, u "SOFT_MAX_ARRAY_LENGTH")] 83

def k13m0 : Method := { name := "<init>", desc := "()V", sig := { parameters := [], returnType := none }, accessFlags := 2, code := none }
/-- jdk/internal/util/ArraysSupport -/
def k13 : Class := { plain "jdk/internal/util/ArraysSupport" (some 0) with
  accessFlags := 33
  interfaces := #[]
  cf := some (fileOf pool13 21 #[] #[{ accessFlags := 2, nameIndex := 9, descriptorIndex := 19, attributes := #[] }] 33 16 #[] #[{ accessFlags := 24, nameIndex := 28, descriptorIndex := 29, attributes := #[] }, { accessFlags := 26, nameIndex := 38, descriptorIndex := 39, attributes := #[] }, { accessFlags := 25, nameIndex := 121, descriptorIndex := 25, attributes := #[] }, { accessFlags := 25, nameIndex := 131, descriptorIndex := 25, attributes := #[] }, { accessFlags := 25, nameIndex := 137, descriptorIndex := 25, attributes := #[] }, { accessFlags := 25, nameIndex := 143, descriptorIndex := 25, attributes := #[] }, { accessFlags := 25, nameIndex := 53, descriptorIndex := 25, attributes := #[] }, { accessFlags := 25, nameIndex := 24, descriptorIndex := 25, attributes := #[] }, { accessFlags := 25, nameIndex := 162, descriptorIndex := 25, attributes := #[] }, { accessFlags := 25, nameIndex := 187, descriptorIndex := 25, attributes := #[] }, { accessFlags := 26, nameIndex := 48, descriptorIndex := 25, attributes := #[] }, { accessFlags := 25, nameIndex := 277, descriptorIndex := 25, attributes := #[] }, { accessFlags := 25, nameIndex := 280, descriptorIndex := 25, attributes := #[] }, { accessFlags := 25, nameIndex := 282, descriptorIndex := 25, attributes := #[] }, { accessFlags := 25, nameIndex := 284, descriptorIndex := 25, attributes := #[] }, { accessFlags := 25, nameIndex := 286, descriptorIndex := 25, attributes := #[] }, { accessFlags := 25, nameIndex := 288, descriptorIndex := 25, attributes := #[] }, { accessFlags := 25, nameIndex := 290, descriptorIndex := 25, attributes := #[] }, { accessFlags := 25, nameIndex := 292, descriptorIndex := 25, attributes := #[] }, { accessFlags := 26, nameIndex := 108, descriptorIndex := 109, attributes := #[] }, { accessFlags := 25, nameIndex := 294, descriptorIndex := 25, attributes := #[] }])
  fields := #[{ name := "U", type := (.object "jdk/internal/misc/Unsafe"), accessFlags := 24, slot := 0, constantValue := 0 }, { name := "BIG_ENDIAN", type := .boolean, accessFlags := 26, slot := 1, constantValue := 0 }, { name := "LOG2_ARRAY_BOOLEAN_INDEX_SCALE", type := .int, accessFlags := 25, slot := 2, constantValue := 0 }, { name := "LOG2_ARRAY_BYTE_INDEX_SCALE", type := .int, accessFlags := 25, slot := 3, constantValue := 0 }, { name := "LOG2_ARRAY_CHAR_INDEX_SCALE", type := .int, accessFlags := 25, slot := 4, constantValue := 0 }, { name := "LOG2_ARRAY_SHORT_INDEX_SCALE", type := .int, accessFlags := 25, slot := 5, constantValue := 0 }, { name := "LOG2_ARRAY_INT_INDEX_SCALE", type := .int, accessFlags := 25, slot := 6, constantValue := 0 }, { name := "LOG2_ARRAY_LONG_INDEX_SCALE", type := .int, accessFlags := 25, slot := 7, constantValue := 0 }, { name := "LOG2_ARRAY_FLOAT_INDEX_SCALE", type := .int, accessFlags := 25, slot := 8, constantValue := 0 }, { name := "LOG2_ARRAY_DOUBLE_INDEX_SCALE", type := .int, accessFlags := 25, slot := 9, constantValue := 0 }, { name := "LOG2_BYTE_BIT_SIZE", type := .int, accessFlags := 26, slot := 10, constantValue := 0 }, { name := "T_BOOLEAN", type := .int, accessFlags := 25, slot := 11, constantValue := 0 }, { name := "T_CHAR", type := .int, accessFlags := 25, slot := 12, constantValue := 0 }, { name := "T_FLOAT", type := .int, accessFlags := 25, slot := 13, constantValue := 0 }, { name := "T_DOUBLE", type := .int, accessFlags := 25, slot := 14, constantValue := 0 }, { name := "T_BYTE", type := .int, accessFlags := 25, slot := 15, constantValue := 0 }, { name := "T_SHORT", type := .int, accessFlags := 25, slot := 16, constantValue := 0 }, { name := "T_INT", type := .int, accessFlags := 25, slot := 17, constantValue := 0 }, { name := "T_LONG", type := .int, accessFlags := 25, slot := 18, constantValue := 0 }, { name := "JLA", type := (.object "jdk/internal/access/JavaLangAccess"), accessFlags := 26, slot := 19, constantValue := 0 }, { name := "SOFT_MAX_ARRAY_LENGTH", type := .int, accessFlags := 25, slot := 20, constantValue := 0 }]
  methods := #[k13m0]
  instanceTypes := #[]
  staticTypes := #[(.object "jdk/internal/misc/Unsafe"), .boolean, .int, .int, .int, .int, .int, .int, .int, .int, .int, .int, .int, .int, .int, .int, .int, .int, .int, (.object "jdk/internal/access/JavaLangAccess"), .int]
  resolved := Array.replicate 378 none
  statics := none }

def pool14 : Array CpInfo := pool [(1, u "java/lang/Cloneable"), (0, .class_ 1), (0, u "java/lang/Object"), (0, .class_ 3)] 3

/-- java/lang/Cloneable -/
def k14 : Class := { plain "java/lang/Cloneable" (some 0) with
  accessFlags := 1537
  interfaces := #[]
  cf := some (fileOf pool14 2 #[] #[] 1537 4 #[] #[])
  fields := #[]
  methods := #[]
  instanceTypes := #[]
  staticTypes := #[]
  resolved := Array.replicate 8 none
  statics := none }

/-- the primitive byte -/
def k15 : Class := { plain "byte" none with kind := .primitive 'B', accessFlags := 0x411 }
/-- [B -/
def k16 : Class := { plain "[B" (some 0) with kind := .array 15 .byte, interfaces := #[14, 3], accessFlags := 1041 }

/-- the primitive char -/
def k17 : Class := { plain "char" none with kind := .primitive 'C', accessFlags := 0x411 }
/-- [C -/
def k18 : Class := { plain "[C" (some 0) with kind := .array 17 .char, interfaces := #[14, 3], accessFlags := 1041 }

/-- the primitive int -/
def k19 : Class := { plain "int" none with kind := .primitive 'I', accessFlags := 0x411 }
/-- [I -/
def k20 : Class := { plain "[I" (some 0) with kind := .array 19 .int, interfaces := #[14, 3], accessFlags := 1041 }

def heap : Heap := #[{ cls := 8, slots := #[.long 0, .int 1, .null, .int 0, .null, .int 0, .int 0], vm := .statics 8 },
  { cls := 12, slots := #[.null, .null, .null], vm := .statics 12 }]
def classes : Array Class := #[k0, k1, k2, k3, k4, k5, k6, k7, k8, k9, k10, k11, k12, k13, k14, k15, k16, k17, k18, k19, k20]
def interned : List (Array UInt16 × Addr) := []
def slotsUsed : Nat := 10
def theMethod : MethodId := ⟨1, 3⟩
def args0 : Array Value := #[.int 5, .int 7, .int 5, .int 7, .int 3, .int 9]
def aboutOver (below : List Frame) : State where
  vm := { classes := classes, interned := interned.toArray }
  heap := heap
  slotsUsed := slotsUsed
  threads := #[{ frames := .invoking theMethod args0 :: below }]
def below0 : List Frame := [.native { method := ⟨0, 0⟩, args := #[] }]
def about1 : State := aboutOver below0
def p0 : Program := .bare "" "" ""
def e0 : Env := launch0.env 0 0 0
theorem w_frames : about1.frames = Frame.invoking theMethod args0 :: below0 := rfl
set_option maxRecDepth 65536 in
theorem w_args : argsFit about1.vm theMethod args0 = true := by decide +kernel
set_option maxRecDepth 65536 in
theorem w_heap : heapFits about1 = true := by decide +kernel
set_option maxRecDepth 65536 in
theorem w_runnable : about1.curStatus? = some .runnable := by decide +kernel
set_option maxRecDepth 65536 in
theorem w_alone : about1.alone = true := by decide +kernel
set_option maxRecDepth 65536 in
theorem w_named : about1.methodNamed? x = some theMethod := by decide +kernel
set_option maxRecDepth 65536 in
theorem w_hears : about1.hears theMethod below0 = true := by decide +kernel
set_option maxRecDepth 65536 in
theorem w_ripe : about1.ripe theMethod args0 below0 = true := by decide +kernel
theorem w_running : about1.status = .running := rfl
set_option maxRecDepth 65536 in
theorem w_room : about1.hasRoom e0.platform room_1 = true :=
  launch0.hasRoom_least _ room_1 (by decide +kernel) (by decide +kernel) (by decide +kernel) (by decide +kernel) (by decide +kernel) (by decide +kernel)
theorem allAtoms_all (ts : List Jvm.Cond) (a : Array Jvm.Value) (st : Jvm.State) : (allAtoms ts).before a st = ts.all (fun c => c.before a st) := by
  induction ts with
  | nil => rfl
  | cons c t ih =>
    show (Jvm.Cond.and c (allAtoms t)).before a st = _
    rw [Jvm.Cond.before_and, ih, List.all_cons]
def words1 : List Jvm.Cond := Jvm.Cond.code x code maxLocals ret :: tables_1
/-- a 'code' word, met by the world's own term for the bytes: nothing is compared byte by byte -/
theorem code_word {y : MethodName} {bytes : ByteArray} {mx : Nat} {rt : Option FieldType} {a : Array Value} {s : State} {m : MethodId} {meth : Method} {c : Code} (h1 : s.methodNamed? y = some m) (h2 : s.vm.method? m = some meth) (h3 : meth.code = some c) (h4 : c.code = bytes)
    (h5 : (c.maxLocals == mx && c.exceptionTable.isEmpty && decide (c.maxStack ≤ mostOperands) && decide (meth.sig.returnType = rt) && !meth.locks && decide (parseMethodDescriptor y.desc = some meth.sig)) = true) : (Jvm.Cond.code y bytes mx rt).before a s = true := by
  simp only [Bool.and_eq_true, beq_iff_eq, Bool.not_eq_true', decide_eq_true_eq] at h5
  obtain ⟨⟨⟨⟨⟨g1, g2⟩, g3⟩, g4⟩, g5⟩, g6⟩ := h5
  simp [Cond.before, Cond.holds, Cond.value, h1, h2, h3, h4, g1, g2, g3, g4, g5, g6]
def isCode : Jvm.Cond → Bool
  | .code _ _ _ _ => true
  | _ => false
theorem all_split {L : List Jvm.Cond} {P : Jvm.Cond → Bool} (h1 : L.all (fun c => isCode c || P c) = true) (h2 : ∀ c ∈ L.filter isCode, P c = true) : L.all P = true := by
  refine List.all_eq_true.mpr fun c hc => ?_
  have h := List.all_eq_true.mp h1 c hc
  rcases Bool.eq_false_or_eq_true (isCode c) with hi | hi
  · exact h2 c (List.mem_filter.mpr ⟨hc, hi⟩)
  · simpa [hi] using h
set_option maxRecDepth 65536 in
theorem w_c0 : (Jvm.Cond.code x code maxLocals ret).before args0 about1 = true := code_word (m := ⟨1, 3⟩) (meth := k1m3) (c := k1c3) (by decide +kernel) rfl rfl rfl (by decide +kernel)
set_option maxRecDepth 65536 in
theorem w_c1 : (Jvm.Cond.code ({ cls := "com/example/prudent_till/prudenttill/model/RequestKeyEqualsPinLaw", name := "str", desc := "(I)Ljava/lang/String;" } : Jvm.MethodName) method_2_code (4 : Nat) (Option.some (Jvm.ClassFile.FieldType.object "java/lang/String"))).before args0 about1 = true := code_word (m := ⟨1, 1⟩) (meth := k1m1) (c := k1c1) (by decide +kernel) rfl rfl rfl (by decide +kernel)
set_option maxRecDepth 65536 in
theorem w_c2 : (Jvm.Cond.code ({ cls := "java/lang/String", name := "<init>", desc := "([C)V" } : Jvm.MethodName) jdk_42_method_3_code (2 : Nat) (Option.none : Option Jvm.ClassFile.FieldType)).before args0 about1 = true := code_word (m := ⟨8, 1⟩) (meth := k8m1) (c := k8c1) (by decide +kernel) rfl rfl rfl (by decide +kernel)
set_option maxRecDepth 65536 in
theorem w_c3 : (Jvm.Cond.code ({ cls := "java/lang/String", name := "<init>", desc := "([CIILjava/lang/Void;)V" } : Jvm.MethodName) jdk_42_method_149_code (6 : Nat) (Option.none : Option Jvm.ClassFile.FieldType)).before args0 about1 = true := code_word (m := ⟨8, 3⟩) (meth := k8m3) (c := k8c3) (by decide +kernel) rfl rfl rfl (by decide +kernel)
set_option maxRecDepth 65536 in
theorem w_c4 : (Jvm.Cond.code ({ cls := "java/lang/Object", name := "<init>", desc := "()V" } : Jvm.MethodName) object_method_1_code (1 : Nat) (Option.none : Option Jvm.ClassFile.FieldType)).before args0 about1 = true := code_word (m := ⟨0, 0⟩) (meth := k0m0) (c := k0c0) (by decide +kernel) rfl rfl rfl (by decide +kernel)
set_option maxRecDepth 65536 in
theorem w_c5 : (Jvm.Cond.code ({ cls := "com/example/prudent_till/prudenttill/model/RequestKey", name := "<init>", desc := "(Ljava/lang/String;Ljava/lang/String;Ljava/lang/String;Ljava/lang/String;)V" } : Jvm.MethodName) prog_59_method_1_code (5 : Nat) (Option.none : Option Jvm.ClassFile.FieldType)).before args0 about1 = true := code_word (m := ⟨2, 0⟩) (meth := k2m0) (c := k2c0) (by decide +kernel) rfl rfl rfl (by decide +kernel)
set_option maxRecDepth 65536 in
theorem w_c6 : (Jvm.Cond.code ({ cls := "java/util/Objects", name := "requireNonNull", desc := "(Ljava/lang/Object;Ljava/lang/String;)Ljava/lang/Object;" } : Jvm.MethodName) jdk_31_method_11_code (2 : Nat) (Option.some (Jvm.ClassFile.FieldType.object "java/lang/Object"))).before args0 about1 = true := code_word (m := ⟨9, 1⟩) (meth := k9m1) (c := k9c1) (by decide +kernel) rfl rfl rfl (by decide +kernel)
set_option maxRecDepth 65536 in
theorem w_c7 : (Jvm.Cond.code ({ cls := "com/example/prudent_till/prudenttill/model/RequestKeyEqualsPinLaw", name := "canon", desc := "(I)I" } : Jvm.MethodName) method_3_code (2 : Nat) (Option.some Jvm.ClassFile.FieldType.int)).before args0 about1 = true := code_word (m := ⟨1, 2⟩) (meth := k1m2) (c := k1c2) (by decide +kernel) rfl rfl rfl (by decide +kernel)
set_option maxRecDepth 65536 in
theorem w_c8 : (Jvm.Cond.code ({ cls := "com/example/prudent_till/prudenttill/model/RequestKey", name := "equals", desc := "(Ljava/lang/Object;)Z" } : Jvm.MethodName) prog_59_method_6_code (3 : Nat) (Option.some Jvm.ClassFile.FieldType.boolean)).before args0 about1 = true := code_word (m := ⟨2, 1⟩) (meth := k2m1) (c := k2c1) (by decide +kernel) rfl rfl rfl (by decide +kernel)
set_option maxRecDepth 65536 in
theorem w_c9 : (Jvm.Cond.code ({ cls := "java/lang/String", name := "equals", desc := "(Ljava/lang/Object;)Z" } : Jvm.MethodName) jdk_42_method_66_code (3 : Nat) (Option.some Jvm.ClassFile.FieldType.boolean)).before args0 about1 = true := code_word (m := ⟨8, 2⟩) (meth := k8m2) (c := k8c2) (by decide +kernel) rfl rfl rfl (by decide +kernel)
set_option maxRecDepth 65536 in
theorem w_c10 : (Jvm.Cond.code ({ cls := "java/lang/StringLatin1", name := "equals", desc := "([B[B)Z" } : Jvm.MethodName) jdk_43_method_13_code (3 : Nat) (Option.some Jvm.ClassFile.FieldType.boolean)).before args0 about1 = true := code_word (m := ⟨10, 1⟩) (meth := k10m1) (c := k10c1) (by decide +kernel) rfl rfl rfl (by decide +kernel)
set_option maxRecDepth 65536 in
theorem w_c11 : (Jvm.Cond.code ({ cls := "java/lang/StringUTF16", name := "compress", desc := "([CII)[B" } : Jvm.MethodName) jdk_52_method_16_code (6 : Nat) (Option.some (Jvm.ClassFile.FieldType.array Jvm.ClassFile.FieldType.byte))).before args0 about1 = true := code_word (m := ⟨11, 2⟩) (meth := k11m2) (c := k11c2) (by decide +kernel) rfl rfl rfl (by decide +kernel)
set_option maxRecDepth 65536 in
theorem w_c12 : (Jvm.Cond.code ({ cls := "java/lang/StringUTF16", name := "compress", desc := "([CI[BII)I" } : Jvm.MethodName) jdk_52_method_21_code (7 : Nat) (Option.some Jvm.ClassFile.FieldType.int)).before args0 about1 = true := code_word (m := ⟨11, 3⟩) (meth := k11m3) (c := k11c3) (by decide +kernel) rfl rfl rfl (by decide +kernel)
set_option maxRecDepth 65536 in
theorem w_c13 : (Jvm.Cond.code ({ cls := "java/lang/StringUTF16", name := "coderFromArrayLen", desc := "([BI)B" } : Jvm.MethodName) jdk_52_method_15_code (2 : Nat) (Option.some Jvm.ClassFile.FieldType.byte)).before args0 about1 = true := code_word (m := ⟨11, 1⟩) (meth := k11m1) (c := k11c1) (by decide +kernel) rfl rfl rfl (by decide +kernel)
def codes1 : List Jvm.Cond := [Jvm.Cond.code x code maxLocals ret, Jvm.Cond.code ({ cls := "com/example/prudent_till/prudenttill/model/RequestKeyEqualsPinLaw", name := "str", desc := "(I)Ljava/lang/String;" } : Jvm.MethodName) method_2_code (4 : Nat) (Option.some (Jvm.ClassFile.FieldType.object "java/lang/String")), Jvm.Cond.code ({ cls := "java/lang/String", name := "<init>", desc := "([C)V" } : Jvm.MethodName) jdk_42_method_3_code (2 : Nat) (Option.none : Option Jvm.ClassFile.FieldType), Jvm.Cond.code ({ cls := "java/lang/String", name := "<init>", desc := "([CIILjava/lang/Void;)V" } : Jvm.MethodName) jdk_42_method_149_code (6 : Nat) (Option.none : Option Jvm.ClassFile.FieldType), Jvm.Cond.code ({ cls := "java/lang/Object", name := "<init>", desc := "()V" } : Jvm.MethodName) object_method_1_code (1 : Nat) (Option.none : Option Jvm.ClassFile.FieldType), Jvm.Cond.code ({ cls := "com/example/prudent_till/prudenttill/model/RequestKey", name := "<init>", desc := "(Ljava/lang/String;Ljava/lang/String;Ljava/lang/String;Ljava/lang/String;)V" } : Jvm.MethodName) prog_59_method_1_code (5 : Nat) (Option.none : Option Jvm.ClassFile.FieldType), Jvm.Cond.code ({ cls := "java/util/Objects", name := "requireNonNull", desc := "(Ljava/lang/Object;Ljava/lang/String;)Ljava/lang/Object;" } : Jvm.MethodName) jdk_31_method_11_code (2 : Nat) (Option.some (Jvm.ClassFile.FieldType.object "java/lang/Object")), Jvm.Cond.code ({ cls := "com/example/prudent_till/prudenttill/model/RequestKeyEqualsPinLaw", name := "canon", desc := "(I)I" } : Jvm.MethodName) method_3_code (2 : Nat) (Option.some Jvm.ClassFile.FieldType.int), Jvm.Cond.code ({ cls := "com/example/prudent_till/prudenttill/model/RequestKey", name := "equals", desc := "(Ljava/lang/Object;)Z" } : Jvm.MethodName) prog_59_method_6_code (3 : Nat) (Option.some Jvm.ClassFile.FieldType.boolean), Jvm.Cond.code ({ cls := "java/lang/String", name := "equals", desc := "(Ljava/lang/Object;)Z" } : Jvm.MethodName) jdk_42_method_66_code (3 : Nat) (Option.some Jvm.ClassFile.FieldType.boolean), Jvm.Cond.code ({ cls := "java/lang/StringLatin1", name := "equals", desc := "([B[B)Z" } : Jvm.MethodName) jdk_43_method_13_code (3 : Nat) (Option.some Jvm.ClassFile.FieldType.boolean), Jvm.Cond.code ({ cls := "java/lang/StringUTF16", name := "compress", desc := "([CII)[B" } : Jvm.MethodName) jdk_52_method_16_code (6 : Nat) (Option.some (Jvm.ClassFile.FieldType.array Jvm.ClassFile.FieldType.byte)), Jvm.Cond.code ({ cls := "java/lang/StringUTF16", name := "compress", desc := "([CI[BII)I" } : Jvm.MethodName) jdk_52_method_21_code (7 : Nat) (Option.some Jvm.ClassFile.FieldType.int), Jvm.Cond.code ({ cls := "java/lang/StringUTF16", name := "coderFromArrayLen", desc := "([BI)B" } : Jvm.MethodName) jdk_52_method_15_code (2 : Nat) (Option.some Jvm.ClassFile.FieldType.byte)]
set_option maxRecDepth 65536 in
theorem codes_eq : words1.filter isCode = codes1 := rfl
theorem w_codes : ∀ c ∈ words1.filter isCode, c.before args0 about1 = true := by
  rw [codes_eq]
  intro c hc
  simp only [codes1, List.mem_cons, List.not_mem_nil, or_false] at hc
  rcases hc with rfl | rfl | rfl | rfl | rfl | rfl | rfl | rfl | rfl | rfl | rfl | rfl | rfl | rfl
  · exact w_c0
  · exact w_c1
  · exact w_c2
  · exact w_c3
  · exact w_c4
  · exact w_c5
  · exact w_c6
  · exact w_c7
  · exact w_c8
  · exact w_c9
  · exact w_c10
  · exact w_c11
  · exact w_c12
  · exact w_c13
set_option maxRecDepth 65536 in
theorem w_t1 : (words1.take 24).all (fun c => isCode c || c.before args0 about1) = true := by decide +kernel
set_option maxRecDepth 65536 in
theorem w_t2 : ((words1.drop 24).take 24).all (fun c => isCode c || c.before args0 about1) = true := by decide +kernel
set_option maxRecDepth 65536 in
theorem w_t3 : (((words1.drop 24).drop 24).take 24).all (fun c => isCode c || c.before args0 about1) = true := by decide +kernel
set_option maxRecDepth 65536 in
theorem w_t4 : (((words1.drop 24).drop 24).drop 24).all (fun c => isCode c || c.before args0 about1) = true := by decide +kernel
theorem w_tables : (allAtoms (Jvm.Cond.code x code maxLocals ret :: tables_1)).before args0 about1 = true := by
  rw [allAtoms_all]
  show words1.all (fun c => c.before args0 about1) = true
  refine all_split ?_ w_codes
  rw [← List.take_append_drop 24 words1, List.all_append, w_t1, ← List.take_append_drop 24 (words1.drop 24), List.all_append, w_t2, ← List.take_append_drop 24 ((words1.drop 24).drop 24), List.all_append, w_t3, w_t4]
  rfl
set_option maxRecDepth 65536 in
theorem w_rest : rest_1_c.before args0 about1 = true := by decide +kernel
set_option maxRecDepth 65536 in
theorem w_case : (Jvm.Cond.and given_1 narrow_1).before args0 about1 = true := by decide +kernel
set_option maxRecDepth 65536 in
theorem w_consts : constsHeld consts_1 about1 := Jvm.Lit.constsHeldB_iff.mp (by decide +kernel)
theorem w_applies : (headSpec (Jvm.Cond.code x code maxLocals ret :: tables_1) room_1).applies x e0.platform about1 = true :=
  (Spec.applies_iff w_frames).mpr ⟨w_running, w_runnable, w_alone, w_named, w_hears, w_ripe, w_room, w_tables⟩
theorem atStart : AtStart classFile x code maxLocals ret World_1 tables_1 room_1 Calls_1 rest_1 Pre_1 launch0 p0 e0 about1 theMethod args0 below0 :=
  ⟨lists_1, trivial, launch0.admits_env _ _ _, launch0.least_env, fairChoices_fair.cas, fairChoices_fair.clock, w_frames, w_args, w_heap, w_applies, ⟨w_consts, trivial⟩, w_rest, w_case⟩
end start1
theorem witness_1 : WitnessClaimed_1 := ⟨start1.p0, start1.e0, start1.about1, start1.theMethod, start1.args0, start1.below0, start1.atStart⟩
end Jvm.Pilot.@@N@@
