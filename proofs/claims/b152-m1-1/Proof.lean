import JvmDerived
import JvmDerived.Pilot.@@N@@Statement
import JvmDerived.Pilot.@@N@@Code
set_option linter.unusedVariables false
set_option linter.unusedSimpArgs false

namespace Jvm.Pilot.@@N@@
open Jvm Jvm.ClassFile Sem Op Lib Jvm.Free Jvm.Stand Jvm.LawKit Jvm.RoadKit Bundle Jvm.Pilot.@@N@@.Jvm.D
/-- from S the run comes to an end of which P holds -/
abbrev Ends (tb : Tables) (e : Env) (below : List Frame) (S : State) (P : State → Outcome → Prop) : Prop := ∃ t o, Steps tb e below S t ∧ P t o
theorem own_via {tb : Tables} {e : Env} {below : List Frame} {S S' : State} {P : State → Outcome → Prop} (h : ∀ t, Steps tb e below S' t → Steps tb e below S t) (k : Ends tb e below S' P) : Ends tb e below S P := by
  obtain ⟨t, o, a, b⟩ := k
  exact ⟨t, o, h t a, b⟩
theorem own_begin {tb : Tables} {e : Env} {below : List Frame} {T : State} {g g' : JFrame} {P : State → Outcome → Prop} (q : g = g') (k : Ends tb e below (T.setTop g') P) : ∃ t o, Steps tb e below (T.setTop g) t ∧ P t o := by
  subst q
  exact k
/-- several roads come to one place -/
theorem own_join {tb : Tables} {e : Env} {below : List Frame} {S0 : State} {P : State → Outcome → Prop} {α : Type} (S : α → State) (H : α → Prop) (k1 : (∀ w, H w → Ends tb e below (S w) P) → Ends tb e below S0 P) (k2 : ∀ w, H w → Ends tb e below (S w) P) : Ends tb e below S0 P := k1 k2
theorem own_rwm {s t : State} {o : Outcome} {L : List Loc} {k n k' n' : Nat} (h : ReturnedEndW s o t L k n) (h1 : k ≤ k') (h2 : n ≤ n') : ReturnedEndW s o t L k' n' := ⟨h.1, h.2.1, h.2.2.1, h.2.2.2.mono h1 h2⟩
theorem own_narR {v : Value} {C : String} (h : v.isRef = true) : narrow (.object C) v = v := by cases v <;> first | rfl | (simp [Value.isRef] at h)
theorem own_fitR {v : Value} {C : String} (h : v.isRef = true) : fits (.object C) v = true := by cases v <;> first | rfl | (simp [Value.isRef] at h)
theorem own_catR {v : Value} (h : v.isRef = true) : v.category = 1 := by cases v <;> first | rfl | (simp [Value.isRef] at h)
theorem own_selPriv {s : State} {args : Array Value} {y z : MethodName} (hz : z.cls = y.cls) (hsel : (Jvm.Cond.selects z.cls z z).before args s = true) (hpriv : s.PrivateAt y) (hinst : (Jvm.Cond.instanceMethod y).before args s = true) (hy : y.cls ≠ "java/lang/invoke/MethodHandle" ∧ y.cls ≠ "java/lang/invoke/VarHandle") : (Jvm.Cond.selects y.cls y y).before args s = true := by
  obtain ⟨c2, r2, m2, -, -, q3, -, kP, hkP, hkPi⟩ := Cond.selects_spec hsel
  exact selects_self_of_private (hz ▸ findClass_of_methodNamed q3) hkP hkPi hpriv hinst hy
section OwnSteps
variable {tb : Tables} [Ours tb] {e : Env} {below : List Frame} {T : State} {m : MethodId} {c : Code} {P : State → Outcome → Prop} {pc pc' : Nat} {ls l' : Array Slot} {st : List Value}
theorem s_iload (h : At T m c below) (hx : tb.exec = Jvm.exec) {k : Nat} {v : Int32} (hd : decode c.code pc = .ok (.iload k, 2)) (hl : ls[k]? = some (.val (.int v))) (hp : pc + 2 = pc') (hr : Ends tb e below (T.setTop (mkF m pc' ls (.int v :: st))) P) : Ends tb e below (T.setTop (mkF m pc ls st)) P := by
  subst hp
  exact own_via (fun t_ k_ => XS.iload h hx rfl hd hl k_) hr
theorem s_istore (h : At T m c below) (hx : tb.exec = Jvm.exec) {k : Nat} {v : Int32} (hd : decode c.code pc = .ok (.istore k, 2)) (hl : storeLocals ls k (.int v) = some l') (hp : pc + 2 = pc') (hr : Ends tb e below (T.setTop (mkF m pc' l' st)) P) : Ends tb e below (T.setTop (mkF m pc ls (.int v :: st))) P := by
  subst hp
  exact own_via (fun t_ k_ => XS.istore h hx rfl hd rfl hl k_) hr
theorem s_iloadN (h : At T m c below) (hx : tb.exec = Jvm.exec) {k : Fin 4} {v : Int32} (hd : decode c.code pc = .ok (.iload_n k, 1)) (hl : ls[k.val]? = some (.val (.int v))) (hp : pc + 1 = pc') (hr : Ends tb e below (T.setTop (mkF m pc' ls (.int v :: st))) P) : Ends tb e below (T.setTop (mkF m pc ls st)) P := by
  subst hp
  exact own_via (fun t_ k_ => XS.iloadN h hx rfl hd hl k_) hr
theorem s_istoreN (h : At T m c below) (hx : tb.exec = Jvm.exec) {k : Fin 4} {v : Int32} (hd : decode c.code pc = .ok (.istore_n k, 1)) (hl : storeLocals ls k.val (.int v) = some l') (hp : pc + 1 = pc') (hr : Ends tb e below (T.setTop (mkF m pc' l' st)) P) : Ends tb e below (T.setTop (mkF m pc ls (.int v :: st))) P := by
  subst hp
  exact own_via (fun t_ k_ => XS.istoreN h hx rfl hd rfl hl k_) hr
theorem s_lload (h : At T m c below) (hx : tb.exec = Jvm.exec) {k : Nat} {v : Int64} (hd : decode c.code pc = .ok (.lload k, 2)) (hl : ls[k]? = some (.val (.long v))) (hp : pc + 2 = pc') (hr : Ends tb e below (T.setTop (mkF m pc' ls (.long v :: st))) P) : Ends tb e below (T.setTop (mkF m pc ls st)) P := by
  subst hp
  exact own_via (fun t_ k_ => XS.lload h hx rfl hd hl k_) hr
theorem s_lstore (h : At T m c below) (hx : tb.exec = Jvm.exec) {k : Nat} {v : Int64} (hd : decode c.code pc = .ok (.lstore k, 2)) (hl : storeLocals ls k (.long v) = some l') (hp : pc + 2 = pc') (hr : Ends tb e below (T.setTop (mkF m pc' l' st)) P) : Ends tb e below (T.setTop (mkF m pc ls (.long v :: st))) P := by
  subst hp
  exact own_via (fun t_ k_ => XS.lstore h hx rfl hd rfl hl k_) hr
theorem s_lloadN (h : At T m c below) (hx : tb.exec = Jvm.exec) {k : Fin 4} {v : Int64} (hd : decode c.code pc = .ok (.lload_n k, 1)) (hl : ls[k.val]? = some (.val (.long v))) (hp : pc + 1 = pc') (hr : Ends tb e below (T.setTop (mkF m pc' ls (.long v :: st))) P) : Ends tb e below (T.setTop (mkF m pc ls st)) P := by
  subst hp
  exact own_via (fun t_ k_ => XS.lloadN h hx rfl hd hl k_) hr
theorem s_lstoreN (h : At T m c below) (hx : tb.exec = Jvm.exec) {k : Fin 4} {v : Int64} (hd : decode c.code pc = .ok (.lstore_n k, 1)) (hl : storeLocals ls k.val (.long v) = some l') (hp : pc + 1 = pc') (hr : Ends tb e below (T.setTop (mkF m pc' l' st)) P) : Ends tb e below (T.setTop (mkF m pc ls (.long v :: st))) P := by
  subst hp
  exact own_via (fun t_ k_ => XS.lstoreN h hx rfl hd rfl hl k_) hr
theorem s_dload (h : At T m c below) (hx : tb.exec = Jvm.exec) {k : Nat} {v : UInt64} (hd : decode c.code pc = .ok (.dload k, 2)) (hl : ls[k]? = some (.val (.double v))) (hp : pc + 2 = pc') (hr : Ends tb e below (T.setTop (mkF m pc' ls (.double v :: st))) P) : Ends tb e below (T.setTop (mkF m pc ls st)) P := by
  subst hp
  exact own_via (fun t_ k_ => XS.dload h hx rfl hd hl k_) hr
theorem s_dstore (h : At T m c below) (hx : tb.exec = Jvm.exec) {k : Nat} {v : UInt64} (hd : decode c.code pc = .ok (.dstore k, 2)) (hl : storeLocals ls k (.double v) = some l') (hp : pc + 2 = pc') (hr : Ends tb e below (T.setTop (mkF m pc' l' st)) P) : Ends tb e below (T.setTop (mkF m pc ls (.double v :: st))) P := by
  subst hp
  exact own_via (fun t_ k_ => XS.dstore h hx rfl hd rfl hl k_) hr
theorem s_dloadN (h : At T m c below) (hx : tb.exec = Jvm.exec) {k : Fin 4} {v : UInt64} (hd : decode c.code pc = .ok (.dload_n k, 1)) (hl : ls[k.val]? = some (.val (.double v))) (hp : pc + 1 = pc') (hr : Ends tb e below (T.setTop (mkF m pc' ls (.double v :: st))) P) : Ends tb e below (T.setTop (mkF m pc ls st)) P := by
  subst hp
  exact own_via (fun t_ k_ => XS.dloadN h hx rfl hd hl k_) hr
theorem s_dstoreN (h : At T m c below) (hx : tb.exec = Jvm.exec) {k : Fin 4} {v : UInt64} (hd : decode c.code pc = .ok (.dstore_n k, 1)) (hl : storeLocals ls k.val (.double v) = some l') (hp : pc + 1 = pc') (hr : Ends tb e below (T.setTop (mkF m pc' l' st)) P) : Ends tb e below (T.setTop (mkF m pc ls (.double v :: st))) P := by
  subst hp
  exact own_via (fun t_ k_ => XS.dstoreN h hx rfl hd rfl hl k_) hr
theorem s_aload (h : At T m c below) (hx : tb.exec = Jvm.exec) {k : Nat} {v : Value} (hd : decode c.code pc = .ok (.aload k, 2)) (hl : ls[k]? = some (.val v)) (hv : v.isRef = true) (hp : pc + 2 = pc') (hr : Ends tb e below (T.setTop (mkF m pc' ls (v :: st))) P) : Ends tb e below (T.setTop (mkF m pc ls st)) P := by
  subst hp
  exact own_via (fun t_ k_ => XS.aload h hx rfl hd hl hv k_) hr
theorem s_astore (h : At T m c below) (hx : tb.exec = Jvm.exec) {k : Nat} {v : Value} (hd : decode c.code pc = .ok (.astore k, 2)) (hv : v.isRef = true) (hl : storeLocals ls k v = some l') (hp : pc + 2 = pc') (hr : Ends tb e below (T.setTop (mkF m pc' l' st)) P) : Ends tb e below (T.setTop (mkF m pc ls (v :: st))) P := by
  subst hp
  exact own_via (fun t_ k_ => XS.astore h hx rfl hd rfl hv hl k_) hr
theorem s_aloadN (h : At T m c below) (hx : tb.exec = Jvm.exec) {k : Fin 4} {v : Value} (hd : decode c.code pc = .ok (.aload_n k, 1)) (hl : ls[k.val]? = some (.val v)) (hv : v.isRef = true) (hp : pc + 1 = pc') (hr : Ends tb e below (T.setTop (mkF m pc' ls (v :: st))) P) : Ends tb e below (T.setTop (mkF m pc ls st)) P := by
  subst hp
  exact own_via (fun t_ k_ => XS.aloadN h hx rfl hd hl hv k_) hr
theorem s_astoreN (h : At T m c below) (hx : tb.exec = Jvm.exec) {k : Fin 4} {v : Value} (hd : decode c.code pc = .ok (.astore_n k, 1)) (hv : v.isRef = true) (hl : storeLocals ls k.val v = some l') (hp : pc + 1 = pc') (hr : Ends tb e below (T.setTop (mkF m pc' l' st)) P) : Ends tb e below (T.setTop (mkF m pc ls (v :: st))) P := by
  subst hp
  exact own_via (fun t_ k_ => XS.astoreN h hx rfl hd rfl hv hl k_) hr
theorem s_iconst (h : At T m c below) (hx : tb.exec = Jvm.exec) {i : Int} {v : Int32} (hd : decode c.code pc = .ok (.iconst i, 1)) (hv : Int32.ofInt i = v) (hp : pc + 1 = pc') (hr : Ends tb e below (T.setTop (mkF m pc' ls (.int v :: st))) P) : Ends tb e below (T.setTop (mkF m pc ls st)) P := by
  subst hp hv
  exact own_via (fun t_ k_ => XS.iconst h hx rfl hd k_) hr
theorem s_bipush (h : At T m c below) (hx : tb.exec = Jvm.exec) {i : Int} {v : Int32} (hd : decode c.code pc = .ok (.bipush i, 2)) (hv : (Int8.ofInt i).toInt32 = v) (hp : pc + 2 = pc') (hr : Ends tb e below (T.setTop (mkF m pc' ls (.int v :: st))) P) : Ends tb e below (T.setTop (mkF m pc ls st)) P := by
  subst hp hv
  exact own_via (fun t_ k_ => XS.bipush h hx rfl hd k_) hr
theorem s_sipush (h : At T m c below) (hx : tb.exec = Jvm.exec) {i : Int} {v : Int32} (hd : decode c.code pc = .ok (.sipush i, 3)) (hv : (Int16.ofInt i).toInt32 = v) (hp : pc + 3 = pc') (hr : Ends tb e below (T.setTop (mkF m pc' ls (.int v :: st))) P) : Ends tb e below (T.setTop (mkF m pc ls st)) P := by
  subst hp hv
  exact own_via (fun t_ k_ => XS.sipush h hx rfl hd k_) hr
theorem s_lconst (h : At T m c below) (hx : tb.exec = Jvm.exec) {i : Fin 2} {v : Int64} (hd : decode c.code pc = .ok (.lconst i, 1)) (hv : Int64.ofNat i = v) (hp : pc + 1 = pc') (hr : Ends tb e below (T.setTop (mkF m pc' ls (.long v :: st))) P) : Ends tb e below (T.setTop (mkF m pc ls st)) P := by
  subst hp hv
  exact own_via (fun t_ k_ => XS.lconst h hx rfl hd k_) hr
theorem s_aconstNull (h : At T m c below) (hx : tb.exec = Jvm.exec)  (hd : decode c.code pc = .ok (.aconst_null, 1))  (hp : pc + 1 = pc') (hr : Ends tb e below (T.setTop (mkF m pc' ls (.null :: st))) P) : Ends tb e below (T.setTop (mkF m pc ls st)) P := by
  subst hp
  exact own_via (fun t_ k_ => XS.aconstNull h hx rfl hd k_) hr
theorem s_iadd (h : At T m c below) (hx : tb.exec = Jvm.exec) {x y : Int32} (hd : decode c.code pc = .ok (.iadd, 1))  (hp : pc + 1 = pc') (hr : Ends tb e below (T.setTop (mkF m pc' ls (.int (x + y) :: st))) P) : Ends tb e below (T.setTop (mkF m pc ls (.int y :: .int x :: st))) P := by
  subst hp
  exact own_via (fun t_ k_ => XS.iadd h hx rfl hd rfl k_) hr
theorem s_isub (h : At T m c below) (hx : tb.exec = Jvm.exec) {x y : Int32} (hd : decode c.code pc = .ok (.isub, 1))  (hp : pc + 1 = pc') (hr : Ends tb e below (T.setTop (mkF m pc' ls (.int (x - y) :: st))) P) : Ends tb e below (T.setTop (mkF m pc ls (.int y :: .int x :: st))) P := by
  subst hp
  exact own_via (fun t_ k_ => XS.isub h hx rfl hd rfl k_) hr
theorem s_imul (h : At T m c below) (hx : tb.exec = Jvm.exec) {x y : Int32} (hd : decode c.code pc = .ok (.imul, 1))  (hp : pc + 1 = pc') (hr : Ends tb e below (T.setTop (mkF m pc' ls (.int (x * y) :: st))) P) : Ends tb e below (T.setTop (mkF m pc ls (.int y :: .int x :: st))) P := by
  subst hp
  exact own_via (fun t_ k_ => XS.imul h hx rfl hd rfl k_) hr
theorem s_iand (h : At T m c below) (hx : tb.exec = Jvm.exec) {x y : Int32} (hd : decode c.code pc = .ok (.iand, 1))  (hp : pc + 1 = pc') (hr : Ends tb e below (T.setTop (mkF m pc' ls (.int (x &&& y) :: st))) P) : Ends tb e below (T.setTop (mkF m pc ls (.int y :: .int x :: st))) P := by
  subst hp
  exact own_via (fun t_ k_ => XS.iand h hx rfl hd rfl k_) hr
theorem s_ior (h : At T m c below) (hx : tb.exec = Jvm.exec) {x y : Int32} (hd : decode c.code pc = .ok (.ior, 1))  (hp : pc + 1 = pc') (hr : Ends tb e below (T.setTop (mkF m pc' ls (.int (x ||| y) :: st))) P) : Ends tb e below (T.setTop (mkF m pc ls (.int y :: .int x :: st))) P := by
  subst hp
  exact own_via (fun t_ k_ => XS.ior h hx rfl hd rfl k_) hr
theorem s_ixor (h : At T m c below) (hx : tb.exec = Jvm.exec) {x y : Int32} (hd : decode c.code pc = .ok (.ixor, 1))  (hp : pc + 1 = pc') (hr : Ends tb e below (T.setTop (mkF m pc' ls (.int (x ^^^ y) :: st))) P) : Ends tb e below (T.setTop (mkF m pc ls (.int y :: .int x :: st))) P := by
  subst hp
  exact own_via (fun t_ k_ => XS.ixor h hx rfl hd rfl k_) hr
theorem s_ishl (h : At T m c below) (hx : tb.exec = Jvm.exec) {x y : Int32} (hd : decode c.code pc = .ok (.ishl, 1))  (hp : pc + 1 = pc') (hr : Ends tb e below (T.setTop (mkF m pc' ls (.int (x <<< (y &&& 31)) :: st))) P) : Ends tb e below (T.setTop (mkF m pc ls (.int y :: .int x :: st))) P := by
  subst hp
  exact own_via (fun t_ k_ => XS.ishl h hx rfl hd rfl k_) hr
theorem s_ishr (h : At T m c below) (hx : tb.exec = Jvm.exec) {x y : Int32} (hd : decode c.code pc = .ok (.ishr, 1))  (hp : pc + 1 = pc') (hr : Ends tb e below (T.setTop (mkF m pc' ls (.int (x >>> (y &&& 31)) :: st))) P) : Ends tb e below (T.setTop (mkF m pc ls (.int y :: .int x :: st))) P := by
  subst hp
  exact own_via (fun t_ k_ => XS.ishr h hx rfl hd rfl k_) hr
theorem s_iushr (h : At T m c below) (hx : tb.exec = Jvm.exec) {x y : Int32} (hd : decode c.code pc = .ok (.iushr, 1))  (hp : pc + 1 = pc') (hr : Ends tb e below (T.setTop (mkF m pc' ls (.int ((x.toUInt32 >>> (y &&& 31).toUInt32).toInt32) :: st))) P) : Ends tb e below (T.setTop (mkF m pc ls (.int y :: .int x :: st))) P := by
  subst hp
  exact own_via (fun t_ k_ => XS.iushr h hx rfl hd rfl k_) hr
theorem s_ladd (h : At T m c below) (hx : tb.exec = Jvm.exec) {x y : Int64} (hd : decode c.code pc = .ok (.ladd, 1))  (hp : pc + 1 = pc') (hr : Ends tb e below (T.setTop (mkF m pc' ls (.long (x + y) :: st))) P) : Ends tb e below (T.setTop (mkF m pc ls (.long y :: .long x :: st))) P := by
  subst hp
  exact own_via (fun t_ k_ => XS.ladd h hx rfl hd rfl k_) hr
theorem s_lsub (h : At T m c below) (hx : tb.exec = Jvm.exec) {x y : Int64} (hd : decode c.code pc = .ok (.lsub, 1))  (hp : pc + 1 = pc') (hr : Ends tb e below (T.setTop (mkF m pc' ls (.long (x - y) :: st))) P) : Ends tb e below (T.setTop (mkF m pc ls (.long y :: .long x :: st))) P := by
  subst hp
  exact own_via (fun t_ k_ => XS.lsub h hx rfl hd rfl k_) hr
theorem s_lmul (h : At T m c below) (hx : tb.exec = Jvm.exec) {x y : Int64} (hd : decode c.code pc = .ok (.lmul, 1))  (hp : pc + 1 = pc') (hr : Ends tb e below (T.setTop (mkF m pc' ls (.long (x * y) :: st))) P) : Ends tb e below (T.setTop (mkF m pc ls (.long y :: .long x :: st))) P := by
  subst hp
  exact own_via (fun t_ k_ => XS.lmul h hx rfl hd rfl k_) hr
theorem s_land (h : At T m c below) (hx : tb.exec = Jvm.exec) {x y : Int64} (hd : decode c.code pc = .ok (.land, 1))  (hp : pc + 1 = pc') (hr : Ends tb e below (T.setTop (mkF m pc' ls (.long (x &&& y) :: st))) P) : Ends tb e below (T.setTop (mkF m pc ls (.long y :: .long x :: st))) P := by
  subst hp
  exact own_via (fun t_ k_ => XS.land h hx rfl hd rfl k_) hr
theorem s_lor (h : At T m c below) (hx : tb.exec = Jvm.exec) {x y : Int64} (hd : decode c.code pc = .ok (.lor, 1))  (hp : pc + 1 = pc') (hr : Ends tb e below (T.setTop (mkF m pc' ls (.long (x ||| y) :: st))) P) : Ends tb e below (T.setTop (mkF m pc ls (.long y :: .long x :: st))) P := by
  subst hp
  exact own_via (fun t_ k_ => XS.lor h hx rfl hd rfl k_) hr
theorem s_lxor (h : At T m c below) (hx : tb.exec = Jvm.exec) {x y : Int64} (hd : decode c.code pc = .ok (.lxor, 1))  (hp : pc + 1 = pc') (hr : Ends tb e below (T.setTop (mkF m pc' ls (.long (x ^^^ y) :: st))) P) : Ends tb e below (T.setTop (mkF m pc ls (.long y :: .long x :: st))) P := by
  subst hp
  exact own_via (fun t_ k_ => XS.lxor h hx rfl hd rfl k_) hr
theorem s_lshl (h : At T m c below) (hx : tb.exec = Jvm.exec) {x : Int64} {y : Int32} (hd : decode c.code pc = .ok (.lshl, 1))  (hp : pc + 1 = pc') (hr : Ends tb e below (T.setTop (mkF m pc' ls (.long (x <<< (y &&& 0x3f).toInt64) :: st))) P) : Ends tb e below (T.setTop (mkF m pc ls (.int y :: .long x :: st))) P := by
  subst hp
  exact own_via (fun t_ k_ => XS.lshl h hx rfl hd rfl k_) hr
theorem s_lshr (h : At T m c below) (hx : tb.exec = Jvm.exec) {x : Int64} {y : Int32} (hd : decode c.code pc = .ok (.lshr, 1))  (hp : pc + 1 = pc') (hr : Ends tb e below (T.setTop (mkF m pc' ls (.long (x >>> (y &&& 0x3f).toInt64) :: st))) P) : Ends tb e below (T.setTop (mkF m pc ls (.int y :: .long x :: st))) P := by
  subst hp
  exact own_via (fun t_ k_ => XS.lshr h hx rfl hd rfl k_) hr
theorem s_lushr (h : At T m c below) (hx : tb.exec = Jvm.exec) {x : Int64} {y : Int32} (hd : decode c.code pc = .ok (.lushr, 1))  (hp : pc + 1 = pc') (hr : Ends tb e below (T.setTop (mkF m pc' ls (.long ((x.toUInt64 >>> (y &&& 0x3f).toInt64.toUInt64).toInt64) :: st))) P) : Ends tb e below (T.setTop (mkF m pc ls (.int y :: .long x :: st))) P := by
  subst hp
  exact own_via (fun t_ k_ => XS.lushr h hx rfl hd rfl k_) hr
theorem s_idiv (h : At T m c below) (hx : tb.exec = Jvm.exec) {x y : Int32} (hd : decode c.code pc = .ok (.idiv, 1)) (hy : y ≠ 0) (hp : pc + 1 = pc') (hr : Ends tb e below (T.setTop (mkF m pc' ls (.int (x / y) :: st))) P) : Ends tb e below (T.setTop (mkF m pc ls (.int y :: .int x :: st))) P := by
  subst hp
  exact own_via (fun t_ k_ => XS.idiv h hx rfl hd rfl hy k_) hr
theorem s_ldiv (h : At T m c below) (hx : tb.exec = Jvm.exec) {x y : Int64} (hd : decode c.code pc = .ok (.ldiv, 1)) (hy : y ≠ 0) (hp : pc + 1 = pc') (hr : Ends tb e below (T.setTop (mkF m pc' ls (.long (x / y) :: st))) P) : Ends tb e below (T.setTop (mkF m pc ls (.long y :: .long x :: st))) P := by
  subst hp
  exact own_via (fun t_ k_ => XS.ldiv h hx rfl hd rfl hy k_) hr
theorem s_lrem (h : At T m c below) (hx : tb.exec = Jvm.exec) {x y : Int64} (hd : decode c.code pc = .ok (.lrem, 1)) (hy : y ≠ 0) (hp : pc + 1 = pc') (hr : Ends tb e below (T.setTop (mkF m pc' ls (.long (x % y) :: st))) P) : Ends tb e below (T.setTop (mkF m pc ls (.long y :: .long x :: st))) P := by
  subst hp
  exact own_via (fun t_ k_ => XS.lrem h hx rfl hd rfl hy (by rw [lrem_mod]; exact k_)) hr
theorem s_ineg (h : At T m c below) (hx : tb.exec = Jvm.exec) {x : Int32} (hd : decode c.code pc = .ok (.ineg, 1))  (hp : pc + 1 = pc') (hr : Ends tb e below (T.setTop (mkF m pc' ls (.int (-x) :: st))) P) : Ends tb e below (T.setTop (mkF m pc ls (.int x :: st))) P := by
  subst hp
  exact own_via (fun t_ k_ => XS.ineg h hx rfl hd rfl k_) hr
theorem s_lneg (h : At T m c below) (hx : tb.exec = Jvm.exec) {x : Int64} (hd : decode c.code pc = .ok (.lneg, 1))  (hp : pc + 1 = pc') (hr : Ends tb e below (T.setTop (mkF m pc' ls (.long (-x) :: st))) P) : Ends tb e below (T.setTop (mkF m pc ls (.long x :: st))) P := by
  subst hp
  exact own_via (fun t_ k_ => XS.lneg h hx rfl hd rfl k_) hr
theorem s_i2l (h : At T m c below) (hx : tb.exec = Jvm.exec) {x : Int32} (hd : decode c.code pc = .ok (.i2l, 1))  (hp : pc + 1 = pc') (hr : Ends tb e below (T.setTop (mkF m pc' ls (.long (x.toInt64) :: st))) P) : Ends tb e below (T.setTop (mkF m pc ls (.int x :: st))) P := by
  subst hp
  exact own_via (fun t_ k_ => XS.i2l h hx rfl hd rfl k_) hr
theorem s_l2i (h : At T m c below) (hx : tb.exec = Jvm.exec) {x : Int64} (hd : decode c.code pc = .ok (.l2i, 1))  (hp : pc + 1 = pc') (hr : Ends tb e below (T.setTop (mkF m pc' ls (.int (x.toInt32) :: st))) P) : Ends tb e below (T.setTop (mkF m pc ls (.long x :: st))) P := by
  subst hp
  exact own_via (fun t_ k_ => XS.l2i h hx rfl hd rfl k_) hr
theorem s_i2b (h : At T m c below) (hx : tb.exec = Jvm.exec) {x : Int32} (hd : decode c.code pc = .ok (.i2b, 1))  (hp : pc + 1 = pc') (hr : Ends tb e below (T.setTop (mkF m pc' ls (.int (x.toInt8.toInt32) :: st))) P) : Ends tb e below (T.setTop (mkF m pc ls (.int x :: st))) P := by
  subst hp
  exact own_via (fun t_ k_ => XS.i2b h hx rfl hd rfl k_) hr
theorem s_i2s (h : At T m c below) (hx : tb.exec = Jvm.exec) {x : Int32} (hd : decode c.code pc = .ok (.i2s, 1))  (hp : pc + 1 = pc') (hr : Ends tb e below (T.setTop (mkF m pc' ls (.int (x.toInt16.toInt32) :: st))) P) : Ends tb e below (T.setTop (mkF m pc ls (.int x :: st))) P := by
  subst hp
  exact own_via (fun t_ k_ => XS.i2s h hx rfl hd rfl k_) hr
theorem s_i2c (h : At T m c below) (hx : tb.exec = Jvm.exec) {x : Int32} (hd : decode c.code pc = .ok (.i2c, 1))  (hp : pc + 1 = pc') (hr : Ends tb e below (T.setTop (mkF m pc' ls (.int (x.toUInt32.toUInt16.toUInt32.toInt32) :: st))) P) : Ends tb e below (T.setTop (mkF m pc ls (.int x :: st))) P := by
  subst hp
  exact own_via (fun t_ k_ => XS.i2c h hx rfl hd rfl k_) hr
theorem s_lcmp (h : At T m c below) (hx : tb.exec = Jvm.exec) {x y : Int64} (hd : decode c.code pc = .ok (.lcmp, 1))  (hp : pc + 1 = pc') (hr : Ends tb e below (T.setTop (mkF m pc' ls (.int (lcmpW x y) :: st))) P) : Ends tb e below (T.setTop (mkF m pc ls (.long y :: .long x :: st))) P := by
  subst hp
  exact own_via (fun t_ k_ => XS.lcmp h hx rfl hd rfl k_) hr
theorem s_l2d (h : At T m c below) (hx : tb.exec = Jvm.exec) {x : Int64} (hd : decode c.code pc = .ok (.l2d, 1))  (hp : pc + 1 = pc') (hr : Ends tb e below (T.setTop (mkF m pc' ls (.double (FP.l2d x) :: st))) P) : Ends tb e below (T.setTop (mkF m pc ls (.long x :: st))) P := by
  subst hp
  exact own_via (fun t_ k_ => XS.l2dS h hx rfl hd rfl rfl k_) hr
theorem s_dneg (h : At T m c below) (hx : tb.exec = Jvm.exec) {x : UInt64} (hd : decode c.code pc = .ok (.dneg, 1))  (hp : pc + 1 = pc') (hr : Ends tb e below (T.setTop (mkF m pc' ls (.double (FP.dneg x) :: st))) P) : Ends tb e below (T.setTop (mkF m pc ls (.double x :: st))) P := by
  subst hp
  exact own_via (fun t_ k_ => XS.dnegS h hx rfl hd rfl rfl k_) hr
theorem s_dcmp (h : At T m c below) (hx : tb.exec = Jvm.exec) {o : CmpOp} {x y : UInt64} (hd : decode c.code pc = .ok (.dcmp o, 1))  (hp : pc + 1 = pc') (hr : Ends tb e below (T.setTop (mkF m pc' ls (.int (cmpValue (FP.dcmp x y) o) :: st))) P) : Ends tb e below (T.setTop (mkF m pc ls (.double y :: .double x :: st))) P := by
  subst hp
  exact own_via (fun t_ k_ => XS.dcmpS h hx rfl hd rfl rfl k_) hr
theorem s_iinc (h : At T m c below) (hx : tb.exec = Jvm.exec) {k : Nat} {i : Int} {x v : Int32} (hd : decode c.code pc = .ok (.iinc k i, 3)) (hv : Int32.ofInt i = v) (hl : ls[k]? = some (.val (.int x))) (hl' : storeLocals ls k (.int (x + v)) = some l') (hp : pc + 3 = pc') (hr : Ends tb e below (T.setTop (mkF m pc' l' st)) P) : Ends tb e below (T.setTop (mkF m pc ls st)) P := by
  subst hp hv
  exact own_via (fun t_ k_ => XS.iinc h hx rfl hd hl hl' k_) hr
theorem s_dup (h : At T m c below) (hx : tb.exec = Jvm.exec) {x : Value} (hd : decode c.code pc = .ok (.dup, 1)) (hc : x.category = 1) (hp : pc + 1 = pc') (hr : Ends tb e below (T.setTop (mkF m pc' ls (x :: x :: st))) P) : Ends tb e below (T.setTop (mkF m pc ls (x :: st))) P := by
  subst hp
  exact own_via (fun t_ k_ => XS.dup h hx rfl hd rfl hc k_) hr
theorem s_dupX1 (h : At T m c below) (hx : tb.exec = Jvm.exec) {x y : Value} (hd : decode c.code pc = .ok (.dup_x1, 1)) (hc : x.category = 1) (hc' : y.category = 1) (hp : pc + 1 = pc') (hr : Ends tb e below (T.setTop (mkF m pc' ls (x :: y :: x :: st))) P) : Ends tb e below (T.setTop (mkF m pc ls (x :: y :: st))) P := by
  subst hp
  exact own_via (fun t_ k_ => XS.dupX1 h hx rfl hd rfl hc hc' k_) hr
theorem s_dup2 (h : At T m c below) (hx : tb.exec = Jvm.exec) {x y : Value} (hd : decode c.code pc = .ok (.dup2, 1)) (hc : x.category = 1) (hc' : y.category = 1) (hp : pc + 1 = pc') (hr : Ends tb e below (T.setTop (mkF m pc' ls (x :: y :: x :: y :: st))) P) : Ends tb e below (T.setTop (mkF m pc ls (x :: y :: st))) P := by
  subst hp
  exact own_via (fun t_ k_ => XT.dup2 h hx rfl hd rfl hc hc' k_) hr
theorem s_dup2L (h : At T m c below) (hx : tb.exec = Jvm.exec) {x : Int64} (hd : decode c.code pc = .ok (.dup2, 1))  (hp : pc + 1 = pc') (hr : Ends tb e below (T.setTop (mkF m pc' ls (.long x :: .long x :: st))) P) : Ends tb e below (T.setTop (mkF m pc ls (.long x :: st))) P := by
  subst hp
  exact own_via (fun t_ k_ => XT.dup2L h hx rfl hd rfl k_) hr
theorem s_pop (h : At T m c below) (hx : tb.exec = Jvm.exec) {x : Value} (hd : decode c.code pc = .ok (.pop, 1)) (hc : x.category = 1) (hp : pc + 1 = pc') (hr : Ends tb e below (T.setTop (mkF m pc' ls st)) P) : Ends tb e below (T.setTop (mkF m pc ls (x :: st))) P := by
  subst hp
  exact own_via (fun t_ k_ => XS.pop h hx rfl hd rfl hc k_) hr
theorem own_pop2L {target : State} {g : JFrame} (h : At T m c below) (hx : tb.exec = Jvm.exec) (hg : g.method = m) {x : Int64} {rest : List Value} (hd : decode c.code g.pc = .ok (.pop2, 1)) (hs : g.stack = .long x :: rest)
    (hr : Steps tb e below (T.setTop { g with pc := g.pc + 1, stack := rest }) target) : Steps tb e below (T.setTop g) target := by
  subst hg
  jvm_step h [h.top, hx, hd, hs, Value.category]
  exact hr
theorem s_pop2L (h : At T m c below) (hx : tb.exec = Jvm.exec) {x : Int64} (hd : decode c.code pc = .ok (.pop2, 1))  (hp : pc + 1 = pc') (hr : Ends tb e below (T.setTop (mkF m pc' ls st)) P) : Ends tb e below (T.setTop (mkF m pc ls (.long x :: st))) P := by
  subst hp
  exact own_via (fun t_ k_ => own_pop2L h hx rfl hd rfl k_) hr
theorem s_goto (h : At T m c below) (hx : tb.exec = Jvm.exec)  {o : Int} (hd : decode c.code pc = .ok (.goto o, 3))  (ho : 0 ≤ (pc : Int) + o) (hp : ((pc : Int) + o).toNat = pc') (hr : Ends tb e below (T.setTop (mkF m pc' ls st)) P) : Ends tb e below (T.setTop (mkF m pc ls st)) P := own_via (fun t_ k_ => XS.goto h hx rfl rfl hd ho hp k_) hr
theorem s_ifYes (h : At T m c below) (hx : tb.exec = Jvm.exec) {cd : ClassFile.Cond} {x : Int32} {o : Int} (hd : decode c.code pc = .ok (.ifCond cd o, 3)) (hc : ifCond.holds cd x = true) (ho : 0 ≤ (pc : Int) + o) (hp : ((pc : Int) + o).toNat = pc') (hr : Ends tb e below (T.setTop (mkF m pc' ls st)) P) : Ends tb e below (T.setTop (mkF m pc ls (.int x :: st))) P := own_via (fun t_ k_ => XS.ifYes h hx rfl rfl hd rfl hc ho hp k_) hr
theorem s_ifNo (h : At T m c below) (hx : tb.exec = Jvm.exec) {cd : ClassFile.Cond} {x : Int32} {o : Int} (hd : decode c.code pc = .ok (.ifCond cd o, 3)) (hc : ifCond.holds cd x = false) (hp : pc + 3 = pc') (hr : Ends tb e below (T.setTop (mkF m pc' ls st)) P) : Ends tb e below (T.setTop (mkF m pc ls (.int x :: st))) P := by
  subst hp
  exact own_via (fun t_ k_ => XS.ifNo h hx rfl hd rfl hc k_) hr
theorem s_icmpYes (h : At T m c below) (hx : tb.exec = Jvm.exec) {cd : ClassFile.Cond} {x y : Int32} {o : Int} (hd : decode c.code pc = .ok (.if_icmp cd o, 3)) (hc : if_icmp.holds cd x y = true) (ho : 0 ≤ (pc : Int) + o) (hp : ((pc : Int) + o).toNat = pc') (hr : Ends tb e below (T.setTop (mkF m pc' ls st)) P) : Ends tb e below (T.setTop (mkF m pc ls (.int y :: .int x :: st))) P := own_via (fun t_ k_ => XS.icmpYes h hx rfl rfl hd rfl hc ho hp k_) hr
theorem s_icmpNo (h : At T m c below) (hx : tb.exec = Jvm.exec) {cd : ClassFile.Cond} {x y : Int32} {o : Int} (hd : decode c.code pc = .ok (.if_icmp cd o, 3)) (hc : if_icmp.holds cd x y = false) (hp : pc + 3 = pc') (hr : Ends tb e below (T.setTop (mkF m pc' ls st)) P) : Ends tb e below (T.setTop (mkF m pc ls (.int y :: .int x :: st))) P := by
  subst hp
  exact own_via (fun t_ k_ => XS.icmpNo h hx rfl hd rfl hc k_) hr
theorem s_ifnullYes (h : At T m c below) (hx : tb.exec = Jvm.exec)  {o : Int} (hd : decode c.code pc = .ok (.ifnull o, 3))  (ho : 0 ≤ (pc : Int) + o) (hp : ((pc : Int) + o).toNat = pc') (hr : Ends tb e below (T.setTop (mkF m pc' ls st)) P) : Ends tb e below (T.setTop (mkF m pc ls (.null :: st))) P := own_via (fun t_ k_ => XS.ifnullYes h hx rfl rfl hd rfl ho hp k_) hr
theorem s_ifnullNo (h : At T m c below) (hx : tb.exec = Jvm.exec) {b : Addr} {o : Int} (hd : decode c.code pc = .ok (.ifnull o, 3))  (hp : pc + 3 = pc') (hr : Ends tb e below (T.setTop (mkF m pc' ls st)) P) : Ends tb e below (T.setTop (mkF m pc ls (.ref b :: st))) P := by
  subst hp
  exact own_via (fun t_ k_ => XS.ifnullNo h hx rfl hd rfl k_) hr
theorem s_ifnonnullYes (h : At T m c below) (hx : tb.exec = Jvm.exec) {b : Addr} {o : Int} (hd : decode c.code pc = .ok (.ifnonnull o, 3))  (ho : 0 ≤ (pc : Int) + o) (hp : ((pc : Int) + o).toNat = pc') (hr : Ends tb e below (T.setTop (mkF m pc' ls st)) P) : Ends tb e below (T.setTop (mkF m pc ls (.ref b :: st))) P := own_via (fun t_ k_ => XS.ifnonnullYes h hx rfl rfl hd rfl ho hp k_) hr
theorem s_ifnonnullNo (h : At T m c below) (hx : tb.exec = Jvm.exec)  {o : Int} (hd : decode c.code pc = .ok (.ifnonnull o, 3))  (hp : pc + 3 = pc') (hr : Ends tb e below (T.setTop (mkF m pc' ls st)) P) : Ends tb e below (T.setTop (mkF m pc ls (.null :: st))) P := by
  subst hp
  exact own_via (fun t_ k_ => XS.ifnonnullNo h hx rfl hd rfl k_) hr
end OwnSteps
section OwnLaws
variable {p : Program} {l : Launch} {e : Env} {R : Room} {s : State} {m : MethodId} {args : Array Value} {below : List Frame} {meth : Method} {c : Code} {T : State} {locs : List Loc} {cells slots : Nat} {Z : State} {a0 : Array Value} {h : Heap} {P : State → Outcome → Prop} {pc pc' : Nat} {ls : Array Slot} {st : List Value}
theorem s_getF (X : Stand p l e R s m args below meth c T locs cells slots) (hx : p.tables.exec = Jvm.exec) (hZ : Z.Warmed39 s.vm) {own R0 O n d host : String} {index : Nat} (hown : s.vm.findClass own = some m.cls) (w : (Jvm.Cond.fieldLink own index R0 n d).before a0 Z = true ∨ (Jvm.Cond.fieldLinkNest own index R0 n d host).before a0 Z = true) (via : Via Z R0 O n d) (eT : T.heap = h) {a : Addr} {v : Value} (F : Fld Z h a O n d v) (hd : decode c.code pc = .ok (.getfield index, 3)) (hp : pc + 3 = pc') (k : ∀ T', Stand p l e R s m args below meth c T' locs cells slots → T'.heap = h → Ends p.tables e below (T'.setTop (mkF m pc' ls (v :: st))) P) : Ends p.tables e below (T.setTop (mkF m pc ls (.ref a :: st))) P := by
  subst hp
  obtain ⟨T', X', e', s'⟩ := getF X hx hZ hown w via eT F (g := mkF m pc ls (.ref a :: st)) rfl rfl hd
  exact own_via s' (k T' X' e')
theorem s_getS (X : Stand p l e R s m args below meth c T locs cells slots) (hx : p.tables.exec = Jvm.exec) (hZ : Z.Warmed39 s.vm) {own R0 O n d host : String} {index : Nat} (hown : s.vm.findClass own = some m.cls) (w : (Jvm.Cond.fieldLink own index R0 n d).before a0 Z = true ∨ (Jvm.Cond.fieldLinkNest own index R0 n d host).before a0 Z = true) (via : Via Z R0 O n d) (eT : T.heap = h) {v : Value} (F : Sta Z h O n d v) (hd : decode c.code pc = .ok (.getstatic index, 3)) (hp : pc + 3 = pc') (k : ∀ T', Stand p l e R s m args below meth c T' locs cells slots → T'.heap = h → Ends p.tables e below (T'.setTop (mkF m pc' ls (v :: st))) P) : Ends p.tables e below (T.setTop (mkF m pc ls st)) P := by
  subst hp
  obtain ⟨T', X', e', s'⟩ := getS2 X hx hZ hown w via eT F (g := mkF m pc ls st) rfl hd
  exact own_via s' (k T' X' e')
theorem s_putF (X : Stand p l e R s m args below meth c T locs cells slots) (hx : p.tables.exec = Jvm.exec) (hZ : Z.Warmed39 s.vm) {own R0 O n d host : String} {index : Nat} (hown : s.vm.findClass own = some m.cls) (w : (Jvm.Cond.fieldLink own index R0 n d).before a0 Z = true ∨ (Jvm.Cond.fieldLinkNest own index R0 n d host).before a0 Z = true) (via : Via Z R0 O n d) (eT : T.heap = h) {C : String} {kk : Nat} {ty : FieldType} {a : Addr} {v old : Value} (F : Fld Z h a O n d old) (E : Exa Z h a C) (L : (Jvm.Cond.lays C O n d).before a0 Z = true ∨ ((Jvm.Cond.laysFinal C O n d).before a0 Z = true ∧ own = O ∧ meth.name = "<init>")) (wi : (Jvm.Cond.instantiable C kk).before a0 Z = true) (hty : parseFieldDescriptor d = some ty) (hn : narrow ty v = v) (hf : fits ty v = true) (hd : decode c.code pc = .ok (.putfield index, 3)) (hp : pc + 3 = pc') (k : ∀ T' h', Stand p l e R s m args below meth c T' (locs ++ [⟨a, Jvm.RoadKit.slotOf Z O n d⟩]) cells slots → T'.heap = h' → Wr h h' a (Jvm.RoadKit.slotOf Z O n d) v → Ends p.tables e below (T'.setTop (mkF m pc' ls st)) P) : Ends p.tables e below (T.setTop (mkF m pc ls (v :: .ref a :: st))) P := by
  subst hp
  obtain ⟨T', h', X', e', W, s'⟩ := putF X hx hZ hown w via eT F E L wi hty hn hf (g := mkF m pc ls (v :: .ref a :: st)) rfl rfl hd
  exact own_via s' (k T' h' X' e' W)
theorem s_putFN (X : Stand p l e R s m args below meth c T locs cells slots) (hx : p.tables.exec = Jvm.exec) (hZ : Z.Warmed39 s.vm) {own R0 O n d : String} {index : Nat} (hown : s.vm.findClass own = some m.cls) (w : (Jvm.Cond.fieldLink own index R0 n d).before a0 Z = true) (via : Via Z R0 O n d) (eT : T.heap = h) {C : String} {kk : Nat} {ty : FieldType} {a : Addr} {v v' old : Value} (F : Fld Z h a O n d old) (E : Exa Z h a C) (L : (Jvm.Cond.lays C O n d).before a0 Z = true ∨ ((Jvm.Cond.laysFinal C O n d).before a0 Z = true ∧ own = O ∧ meth.name = "<init>")) (wi : (Jvm.Cond.instantiable C kk).before a0 Z = true) (hty : parseFieldDescriptor d = some ty) (hn : narrow ty v = v') (hf : fits ty v' = true) (hd : decode c.code pc = .ok (.putfield index, 3)) (hp : pc + 3 = pc') (k : ∀ T' h', Stand p l e R s m args below meth c T' (locs ++ [⟨a, Jvm.RoadKit.slotOf Z O n d⟩]) cells slots → T'.heap = h' → Wr h h' a (Jvm.RoadKit.slotOf Z O n d) v' → Ends p.tables e below (T'.setTop (mkF m pc' ls st)) P) : Ends p.tables e below (T.setTop (mkF m pc ls (v :: .ref a :: st))) P := by
  subst hp
  obtain ⟨T', h', X', e', W, s'⟩ := putFN X hx hZ hown w via eT F E L wi hty hn hf (g := mkF m pc ls (v :: .ref a :: st)) rfl rfl hd
  exact own_via s' (k T' h' X' e' W)
theorem s_newO (X : Stand p l e R s m args below meth c T locs cells slots) (hx : p.tables.exec = Jvm.exec) (hZ : Z.Warmed39 s.vm) {own C : String} {index n : Nat} (hown : s.vm.findClass own = some m.cls) (w : (Jvm.Cond.classLink own index C).before a0 Z = true) (wi : (Jvm.Cond.instantiable C n).before a0 Z = true) (wz : (Jvm.Cond.initialized C).before a0 Z = true) (eT : T.heap = h) (hd : decode c.code pc = .ok (.new index, 3)) (hc : cells + 1 ≤ R.cells) (hl : slots + n ≤ R.slots) (hp : pc + 3 = pc') (k : ∀ T' h', Stand p l e R s m args below meth c T' locs (cells + 1) (slots + n) → T'.heap = h' → Ext h h' → ∀ b, b = h.size → Exa Z h' b C → (∀ {O nm d : String} {ty : FieldType}, Laid Z a0 C O nm d → parseFieldDescriptor d = some ty → Fld Z h' b O nm d (defaultValue ty)) → Ends p.tables e below (T'.setTop (mkF m pc' ls (.ref b :: st))) P) : Ends p.tables e below (T.setTop (mkF m pc ls st)) P := by
  subst hp
  obtain ⟨T', h', X', e', E, A, D, -, s'⟩ := newO X hx hZ hown w wi wz eT (g := mkF m pc ls st) rfl hd hc hl
  exact own_via s' (k T' h' X' e' E _ rfl A D)
theorem s_newP (X : Stand p l e R s m args below meth c T locs cells slots) (hx : p.tables.exec = Jvm.exec) (hZ : Z.Warmed39 s.vm) {aty : ArrayType} (w : (Jvm.Cond.arrayClass (newarray.typeOf aty)).before a0 Z = true) (eT : T.heap = h) (hd : decode c.code pc = .ok (.newarray aty, 2)) {n : Int32} (hn : ¬ n < 0) {cap : Nat} (hcap : n.toNatClampNeg ≤ cap) (hb : cap * 8 ≤ 536870912) (hc : cells + 1 ≤ R.cells) (hl : slots + cap ≤ R.slots) (hp : pc + 2 = pc') (k : ∀ T' h', Stand p l e R s m args below meth c T' locs (cells + 1) (slots + cap) → T'.heap = h' → ∀ cA, Ext h h' → ∀ b, b = h.size → Arr Z h' b (newA cA (newarray.typeOf aty) n) (newarray.typeOf aty) → Ends p.tables e below (T'.setTop (mkF m pc' ls (.ref b :: st))) P) : Ends p.tables e below (T.setTop (mkF m pc ls (.int n :: st))) P := by
  subst hp
  obtain ⟨T', h', cA, X', e', E, A, s'⟩ := newP X hx hZ w eT (g := mkF m pc ls (.int n :: st)) rfl hd rfl hn hcap hb hc hl
  exact own_via s' (k T' h' X' e' cA E _ rfl A)
theorem s_newPE (X : Stand p l e R s m args below meth c T locs cells slots) (hx : p.tables.exec = Jvm.exec) (hZ : Z.Warmed39 s.vm) {aty : ArrayType} (w : (Jvm.Cond.arrayClass (newarray.typeOf aty)).before a0 Z = true) (eT : T.heap = h) (hd : decode c.code pc = .ok (.newarray aty, 2)) {n : Int32} (hn : ¬ n < 0) {cap : Nat} (hcap : n.toNatClampNeg ≤ cap) (hb : cap * 8 ≤ 536870912) (hc : cells + 1 ≤ R.cells) (hl : slots + cap ≤ R.slots) {ad : String} (had : "[" ++ (newarray.typeOf aty).toString = ad) (hp : pc + 2 = pc') (k : ∀ T' h', Stand p l e R s m args below meth c T' locs (cells + 1) (slots + cap) → T'.heap = h' → ∀ cA, Ext h h' → ∀ b, b = h.size → Arr Z h' b (newA cA (newarray.typeOf aty) n) (newarray.typeOf aty) → Exa Z h' b ad → Ends p.tables e below (T'.setTop (mkF m pc' ls (.ref b :: st))) P) : Ends p.tables e below (T.setTop (mkF m pc ls (.int n :: st))) P := by
  subst hp
  obtain ⟨T', h', cA, X', e', E, A, Ex, s'⟩ := newPE X hx hZ w eT (g := mkF m pc ls (.int n :: st)) rfl hd rfl hn hcap hb hc hl had
  exact own_via s' (k T' h' X' e' cA E _ rfl A Ex)
theorem s_newR (X : Stand p l e R s m args below meth c T locs cells slots) (hx : p.tables.exec = Jvm.exec) (hZ : Z.Warmed39 s.vm) {own C : String} {index : Nat} (hown : s.vm.findClass own = some m.cls) (w1 : (Jvm.Cond.classLink own index C).before a0 Z = true) (w2 : (Jvm.Cond.arrayOver (.object C)).before a0 Z = true) (eT : T.heap = h) (hd : decode c.code pc = .ok (.anewarray index, 3)) {n : Int32} (hn : ¬ n < 0) {cap : Nat} (hcap : n.toNatClampNeg ≤ cap) (hb : cap * 8 ≤ 536870912) (hc : cells + 1 ≤ R.cells) (hl : slots + cap ≤ R.slots) (hp : pc + 3 = pc') (k : ∀ T' h', Stand p l e R s m args below meth c T' locs (cells + 1) (slots + cap) → T'.heap = h' → ∀ cA, Ext h h' → ∀ b, b = h.size → Arr Z h' b (newA cA (.object C) n) (.object C) → Ends p.tables e below (T'.setTop (mkF m pc' ls (.ref b :: st))) P) : Ends p.tables e below (T.setTop (mkF m pc ls (.int n :: st))) P := by
  subst hp
  obtain ⟨T', h', cA, X', e', E, A, -, s'⟩ := newR X hx hZ hown w1 w2 eT (g := mkF m pc ls (.int n :: st)) rfl hd rfl hn hcap hb hc hl
  exact own_via s' (k T' h' X' e' cA E _ rfl A)
theorem s_stI (X : Stand p l e R s m args below meth c T locs cells slots) (hx : p.tables.exec = Jvm.exec) (hZ : Z.Warmed39 s.vm) (eT : T.heap = h) {a : Addr} {cl : Cell} (A : Arr Z h a cl .int) {j : Int32} {x : Int32} (hj : ¬ (j < 0 ∨ cl.slots.size ≤ j.toNatClampNeg)) (hd : decode c.code pc = .ok (.iastore, 1)) (hp : pc + 1 = pc') (k : ∀ T' h', Stand p l e R s m args below meth c T' (locs ++ [⟨a, j.toNatClampNeg⟩]) cells slots → T'.heap = h' → Wr h h' a j.toNatClampNeg (.int x) → Ends p.tables e below (T'.setTop (mkF m pc' ls st)) P) : Ends p.tables e below (T.setTop (mkF m pc ls (.int x :: .int j :: .ref a :: st))) P := by
  subst hp
  obtain ⟨T', h', X', e', W, s'⟩ := stI X hx hZ eT A (j := j) hj (g := mkF m pc ls (.int x :: .int j :: .ref a :: st)) rfl rfl hd
  exact own_via s' (k T' h' X' e' W)
theorem s_stJ (X : Stand p l e R s m args below meth c T locs cells slots) (hx : p.tables.exec = Jvm.exec) (hZ : Z.Warmed39 s.vm) (eT : T.heap = h) {a : Addr} {cl : Cell} (A : Arr Z h a cl .long) {j : Int32} {x : Int64} (hj : ¬ (j < 0 ∨ cl.slots.size ≤ j.toNatClampNeg)) (hd : decode c.code pc = .ok (.lastore, 1)) (hp : pc + 1 = pc') (k : ∀ T' h', Stand p l e R s m args below meth c T' (locs ++ [⟨a, j.toNatClampNeg⟩]) cells slots → T'.heap = h' → Wr h h' a j.toNatClampNeg (.long x) → Ends p.tables e below (T'.setTop (mkF m pc' ls st)) P) : Ends p.tables e below (T.setTop (mkF m pc ls (.long x :: .int j :: .ref a :: st))) P := by
  subst hp
  obtain ⟨T', h', X', e', W, s'⟩ := stJ X hx hZ eT A (j := j) hj (g := mkF m pc ls (.long x :: .int j :: .ref a :: st)) rfl rfl hd
  exact own_via s' (k T' h' X' e' W)
theorem s_stC (X : Stand p l e R s m args below meth c T locs cells slots) (hx : p.tables.exec = Jvm.exec) (hZ : Z.Warmed39 s.vm) (eT : T.heap = h) {a : Addr} {cl : Cell} (A : Arr Z h a cl .char) {j : Int32} {x : Int32} (hj : ¬ (j < 0 ∨ cl.slots.size ≤ j.toNatClampNeg)) (hd : decode c.code pc = .ok (.castore, 1)) (hp : pc + 1 = pc') (k : ∀ T' h', Stand p l e R s m args below meth c T' (locs ++ [⟨a, j.toNatClampNeg⟩]) cells slots → T'.heap = h' → Wr h h' a j.toNatClampNeg (.int (nar .char x)) → Ends p.tables e below (T'.setTop (mkF m pc' ls st)) P) : Ends p.tables e below (T.setTop (mkF m pc ls (.int x :: .int j :: .ref a :: st))) P := by
  subst hp
  obtain ⟨T', h', X', e', W, s'⟩ := stC X hx hZ eT A (j := j) hj (g := mkF m pc ls (.int x :: .int j :: .ref a :: st)) rfl rfl hd
  exact own_via s' (k T' h' X' e' W)
theorem s_stB (X : Stand p l e R s m args below meth c T locs cells slots) (hx : p.tables.exec = Jvm.exec) (hZ : Z.Warmed39 s.vm) (eT : T.heap = h) {a : Addr} {cl : Cell} (A : Arr Z h a cl .byte) {j : Int32} {x : Int32} (hj : ¬ (j < 0 ∨ cl.slots.size ≤ j.toNatClampNeg)) (hd : decode c.code pc = .ok (.bastore, 1)) (hp : pc + 1 = pc') (k : ∀ T' h', Stand p l e R s m args below meth c T' (locs ++ [⟨a, j.toNatClampNeg⟩]) cells slots → T'.heap = h' → Wr h h' a j.toNatClampNeg (.int (nar .byte x)) → Ends p.tables e below (T'.setTop (mkF m pc' ls st)) P) : Ends p.tables e below (T.setTop (mkF m pc ls (.int x :: .int j :: .ref a :: st))) P := by
  subst hp
  obtain ⟨T', h', X', e', W, s'⟩ := stB X hx hZ eT A (j := j) hj (g := mkF m pc ls (.int x :: .int j :: .ref a :: st)) rfl rfl hd
  exact own_via s' (k T' h' X' e' W)
theorem s_stN (X : Stand p l e R s m args below meth c T locs cells slots) (hx : p.tables.exec = Jvm.exec) (hZ : Z.Warmed39 s.vm) (eT : T.heap = h) {a : Addr} {cl : Cell} {ty : FieldType} (A : Arr Z h a cl ty) (hr : ty.isReference = true) {j : Int32} (hj : ¬ (j < 0 ∨ cl.slots.size ≤ j.toNatClampNeg)) (hd : decode c.code pc = .ok (.aastore, 1)) (hp : pc + 1 = pc') (k : ∀ T' h', Stand p l e R s m args below meth c T' (locs ++ [⟨a, j.toNatClampNeg⟩]) cells slots → T'.heap = h' → Wr h h' a j.toNatClampNeg .null → Ends p.tables e below (T'.setTop (mkF m pc' ls st)) P) : Ends p.tables e below (T.setTop (mkF m pc ls (.null :: .int j :: .ref a :: st))) P := by
  subst hp
  obtain ⟨T', h', X', e', W, s'⟩ := stR X hx hZ eT A (j := j) hj hr (Or.inl rfl) (g := mkF m pc ls (.null :: .int j :: .ref a :: st)) rfl rfl hd
  exact own_via s' (k T' h' X' e' W)
theorem s_iaload (X : Stand p l e R s m args below meth c T locs cells slots) (hx : p.tables.exec = Jvm.exec) (hZ : Z.Warmed39 s.vm) (eT : T.heap = h) {a : Addr} {k : ClassId} {z : Int32} {vs : List Value} {dv v : Value} {j : Int32} (F : Arv Z h a k .int z vs dv) (hj : ¬ j < 0 ∧ j < z) (hv : vs.getD j.toNatClampNeg dv = v) (hd : decode c.code pc = .ok (.iaload, 1)) (hp : pc + 1 = pc') (hr : Ends p.tables e below (T.setTop (mkF m pc' ls (v :: st))) P) : Ends p.tables e below (T.setTop (mkF m pc ls (.int j :: .ref a :: st))) P := by
  subst hp
  obtain ⟨cl, A, -, S, M, H, -⟩ := F
  have hin := inb_of S hj
  exact own_via (X.iaload hx (j := j) (v := v) (by rw [eT]; exact A.1) (State.isArrayOf_alike hZ.alike A.2.1) A.2.2 hin (H.at hin hv) (g := mkF m pc ls (.int j :: .ref a :: st)) rfl rfl hd) hr
theorem s_laload (X : Stand p l e R s m args below meth c T locs cells slots) (hx : p.tables.exec = Jvm.exec) (hZ : Z.Warmed39 s.vm) (eT : T.heap = h) {a : Addr} {k : ClassId} {z : Int32} {vs : List Value} {dv v : Value} {j : Int32} (F : Arv Z h a k .long z vs dv) (hj : ¬ j < 0 ∧ j < z) (hv : vs.getD j.toNatClampNeg dv = v) (hd : decode c.code pc = .ok (.laload, 1)) (hp : pc + 1 = pc') (hr : Ends p.tables e below (T.setTop (mkF m pc' ls (v :: st))) P) : Ends p.tables e below (T.setTop (mkF m pc ls (.int j :: .ref a :: st))) P := by
  subst hp
  obtain ⟨cl, A, -, S, M, H, -⟩ := F
  have hin := inb_of S hj
  exact own_via (X.laload hx (j := j) (v := v) (by rw [eT]; exact A.1) (State.isArrayOf_alike hZ.alike A.2.1) A.2.2 hin (H.at hin hv) (g := mkF m pc ls (.int j :: .ref a :: st)) rfl rfl hd) hr
theorem s_caload (X : Stand p l e R s m args below meth c T locs cells slots) (hx : p.tables.exec = Jvm.exec) (hZ : Z.Warmed39 s.vm) (eT : T.heap = h) {a : Addr} {k : ClassId} {z : Int32} {vs : List Value} {dv v : Value} {j : Int32} (F : Arv Z h a k .char z vs dv) (hj : ¬ j < 0 ∧ j < z) (hv : vs.getD j.toNatClampNeg dv = v) (hd : decode c.code pc = .ok (.caload, 1)) (hp : pc + 1 = pc') (hr : Ends p.tables e below (T.setTop (mkF m pc' ls (v :: st))) P) : Ends p.tables e below (T.setTop (mkF m pc ls (.int j :: .ref a :: st))) P := by
  subst hp
  obtain ⟨cl, A, -, S, M, H, -⟩ := F
  have hin := inb_of S hj
  exact own_via (X.caload hx (j := j) (v := v) (by rw [eT]; exact A.1) (State.isArrayOf_alike hZ.alike A.2.1) A.2.2 hin (H.at hin hv) (g := mkF m pc ls (.int j :: .ref a :: st)) rfl rfl hd) hr
theorem s_baload (X : Stand p l e R s m args below meth c T locs cells slots) (hx : p.tables.exec = Jvm.exec) (hZ : Z.Warmed39 s.vm) (eT : T.heap = h) {a : Addr} {k : ClassId} {z : Int32} {vs : List Value} {dv v : Value} {j : Int32} (F : Arv Z h a k .byte z vs dv) (hj : ¬ j < 0 ∧ j < z) (hv : vs.getD j.toNatClampNeg dv = v) (hd : decode c.code pc = .ok (.baload, 1)) (hp : pc + 1 = pc') (hr : Ends p.tables e below (T.setTop (mkF m pc' ls (v :: st))) P) : Ends p.tables e below (T.setTop (mkF m pc ls (.int j :: .ref a :: st))) P := by
  subst hp
  obtain ⟨cl, A, -, S, M, H, -⟩ := F
  have hin := inb_of S hj
  exact own_via (X.baloadBytes hx (j := j) (v := v) (by rw [eT]; exact A.1) (State.isArrayOf_alike hZ.alike A.2.1) A.2.2 hin (H.at hin hv) (g := mkF m pc ls (.int j :: .ref a :: st)) rfl rfl hd) hr
theorem s_arraylength (X : Stand p l e R s m args below meth c T locs cells slots) (hx : p.tables.exec = Jvm.exec) (hZ : Z.Warmed39 s.vm) (eT : T.heap = h) {a : Addr} {k : ClassId} {ty : FieldType} {z : Int32} {vs : List Value} {dv : Value} (F : Arv Z h a k ty z vs dv) (hd : decode c.code pc = .ok (.arraylength, 1)) (hp : pc + 1 = pc') (hr : Ends p.tables e below (T.setTop (mkF m pc' ls (.int z :: st))) P) : Ends p.tables e below (T.setTop (mkF m pc ls (.ref a :: st))) P := by
  subst hp
  obtain ⟨cl, A, -, S, M, H, -⟩ := F
  refine own_via (X.arraylength hx (by rw [eT]; exact A.1) (State.isArrayOf_alike hZ.alike A.2.1) (g := mkF m pc ls (.ref a :: st)) rfl rfl hd) ?_
  rw [len_of S M]
  exact hr
theorem own_set {a : Addr} {k : ClassId} {ty : FieldType} {z : Int32} {vs : List Value} {dv v : Value} {j : Int32} {cl : Cell} {h' : Heap} (F : ∃ c : Cell, c = cl ∧ Arr Z h a c ty ∧ c.cls = k ∧ c.slots.size = z.toNatClampNeg ∧ ¬ z < 0 ∧ Has c vs dv ∧ ∀ i, i < c.slots.size → fits ty (vs.getD i dv) = true) (hv : fits ty v = true) (W : Wr h h' a j.toNatClampNeg v) (i : Nat) (hj : j.toNatClampNeg = i) (hi : i < vs.length) : Arv Z h' a k ty z (vs.set i v) dv := by
  obtain ⟨c, rfl, A, q1, S, M, H, G⟩ := F
  exact Arv.set A q1 S M H G hv W i hj hi
theorem s_putI (X : Stand p l e R s m args below meth c T locs cells slots) (hx : p.tables.exec = Jvm.exec) (hZ : Z.Warmed39 s.vm) (eT : T.heap = h) {a : Addr} {k : ClassId} {z : Int32} {vs : List Value} {dv : Value} {j : Int32} {x : Int32} (F : Arv Z h a k .int z vs dv) (hj : ¬ j < 0 ∧ j < z) (i : Nat) (hi : j.toNatClampNeg = i) (hl : i < vs.length) (hd : decode c.code pc = .ok (.iastore, 1)) (hp : pc + 1 = pc') (kk : ∀ T' h', Stand p l e R s m args below meth c T' (locs ++ [⟨a, j.toNatClampNeg⟩]) cells slots → T'.heap = h' → Wr h h' a j.toNatClampNeg (.int x) → Arv Z h' a k .int z (vs.set i (.int x)) dv → Ends p.tables e below (T'.setTop (mkF m pc' ls st)) P) : Ends p.tables e below (T.setTop (mkF m pc ls (.int x :: .int j :: .ref a :: st))) P := by
  obtain ⟨cl, A, q1, S, M, H, G⟩ := F
  exact s_stI X hx hZ eT A (inb_of S hj) hd hp fun T' h' X' e' W => kk T' h' X' e' W (Arv.set A q1 S M H G rfl W i hi hl)
theorem s_putJ (X : Stand p l e R s m args below meth c T locs cells slots) (hx : p.tables.exec = Jvm.exec) (hZ : Z.Warmed39 s.vm) (eT : T.heap = h) {a : Addr} {k : ClassId} {z : Int32} {vs : List Value} {dv : Value} {j : Int32} {x : Int64} (F : Arv Z h a k .long z vs dv) (hj : ¬ j < 0 ∧ j < z) (i : Nat) (hi : j.toNatClampNeg = i) (hl : i < vs.length) (hd : decode c.code pc = .ok (.lastore, 1)) (hp : pc + 1 = pc') (kk : ∀ T' h', Stand p l e R s m args below meth c T' (locs ++ [⟨a, j.toNatClampNeg⟩]) cells slots → T'.heap = h' → Wr h h' a j.toNatClampNeg (.long x) → Arv Z h' a k .long z (vs.set i (.long x)) dv → Ends p.tables e below (T'.setTop (mkF m pc' ls st)) P) : Ends p.tables e below (T.setTop (mkF m pc ls (.long x :: .int j :: .ref a :: st))) P := by
  obtain ⟨cl, A, q1, S, M, H, G⟩ := F
  exact s_stJ X hx hZ eT A (inb_of S hj) hd hp fun T' h' X' e' W => kk T' h' X' e' W (Arv.set A q1 S M H G rfl W i hi hl)
theorem s_putC (X : Stand p l e R s m args below meth c T locs cells slots) (hx : p.tables.exec = Jvm.exec) (hZ : Z.Warmed39 s.vm) (eT : T.heap = h) {a : Addr} {k : ClassId} {z : Int32} {vs : List Value} {dv : Value} {j : Int32} {x : Int32} (F : Arv Z h a k .char z vs dv) (hj : ¬ j < 0 ∧ j < z) (i : Nat) (hi : j.toNatClampNeg = i) (hl : i < vs.length) (hd : decode c.code pc = .ok (.castore, 1)) (hp : pc + 1 = pc') (kk : ∀ T' h', Stand p l e R s m args below meth c T' (locs ++ [⟨a, j.toNatClampNeg⟩]) cells slots → T'.heap = h' → Wr h h' a j.toNatClampNeg (.int (nar .char x)) → Arv Z h' a k .char z (vs.set i (.int (nar .char x))) dv → Ends p.tables e below (T'.setTop (mkF m pc' ls st)) P) : Ends p.tables e below (T.setTop (mkF m pc ls (.int x :: .int j :: .ref a :: st))) P := by
  obtain ⟨cl, A, q1, S, M, H, G⟩ := F
  exact s_stC X hx hZ eT A (inb_of S hj) hd hp fun T' h' X' e' W => kk T' h' X' e' W (Arv.set A q1 S M H G (fits_nar_char _) W i hi hl)
theorem s_putB (X : Stand p l e R s m args below meth c T locs cells slots) (hx : p.tables.exec = Jvm.exec) (hZ : Z.Warmed39 s.vm) (eT : T.heap = h) {a : Addr} {k : ClassId} {z : Int32} {vs : List Value} {dv : Value} {j : Int32} {x : Int32} (F : Arv Z h a k .byte z vs dv) (hj : ¬ j < 0 ∧ j < z) (i : Nat) (hi : j.toNatClampNeg = i) (hl : i < vs.length) (hd : decode c.code pc = .ok (.bastore, 1)) (hp : pc + 1 = pc') (kk : ∀ T' h', Stand p l e R s m args below meth c T' (locs ++ [⟨a, j.toNatClampNeg⟩]) cells slots → T'.heap = h' → Wr h h' a j.toNatClampNeg (.int (nar .byte x)) → Arv Z h' a k .byte z (vs.set i (.int (nar .byte x))) dv → Ends p.tables e below (T'.setTop (mkF m pc' ls st)) P) : Ends p.tables e below (T.setTop (mkF m pc ls (.int x :: .int j :: .ref a :: st))) P := by
  obtain ⟨cl, A, q1, S, M, H, G⟩ := F
  exact s_stB X hx hZ eT A (inb_of S hj) hd hp fun T' h' X' e' W => kk T' h' X' e' W (Arv.set A q1 S M H G (fits_nar_byte _) W i hi hl)
theorem s_initO (X : Stand p l e R s m args below meth c T locs cells slots) (hx : p.tables.exec = Jvm.exec) (hZ : Z.Warmed39 s.vm) {own : String} {idx : Nat} (hown : s.vm.findClass own = some m.cls) (w1 : (Jvm.Cond.methodLink own idx Lib.objectInit).before a0 Z = true) (w2 : (Jvm.Cond.instanceMethod Lib.objectInit).before a0 Z = true) (w3 : (Jvm.Cond.code Lib.objectInit ⟨#[0xb1]⟩ 1 none).before a0 Z = true) (eT : T.heap = h) (hsize : ls.size = c.maxLocals) {a : Addr} (hd : decode c.code pc = .ok (.invokespecial idx, 3)) (hf : 1 ≤ R.frames) {W : Nat} (hW : (st.map fun v => v.category).sum ≤ W) (hl : W + 12 ≤ R.locals) (hp : pc + 3 = pc') (k : ∀ T', Stand p l e R s m args below meth c T' locs cells slots → T'.heap = h → Ends p.tables e below (T'.setTop (mkF m pc' ls st)) P) : Ends p.tables e below (T.setTop (mkF m pc ls (.ref a :: st))) P := by
  subst hp
  obtain ⟨T', X', e', s'⟩ := initO X hx hZ hown w1 w2 w3 eT (g := mkF m pc ls (.ref a :: st)) rfl hsize rfl hd hf (W := W) (by show 2 * 0 + _ ≤ _; omega) hl
  exact own_via s' (k T' X' e')
theorem s_castY (X : Stand p l e R s m args below meth c T locs cells slots) (hx : p.tables.exec = Jvm.exec) (hZ : Z.Warmed39 s.vm) {own K : String} {index : Nat} (hown : s.vm.findClass own = some m.cls) (w : (Jvm.Cond.classLink own index K).before a0 Z = true) (eT : T.heap = h) {a : Addr} (F : Ins Z h a K true) (hd : decode c.code pc = .ok (.checkcast index, 3)) (hp : pc + 3 = pc') (k : ∀ T', Stand p l e R s m args below meth c T' locs cells slots → T'.heap = h → Ends p.tables e below (T'.setTop (mkF m pc' ls (.ref a :: st))) P) : Ends p.tables e below (T.setTop (mkF m pc ls (.ref a :: st))) P := by
  subst hp
  obtain ⟨T', X', e', s'⟩ := castY X hx hZ hown w eT F (g := mkF m pc ls (.ref a :: st)) rfl rfl hd
  exact own_via s' (k T' X' e')
theorem s_instY (X : Stand p l e R s m args below meth c T locs cells slots) (hx : p.tables.exec = Jvm.exec) (hZ : Z.Warmed39 s.vm) {own K : String} {index : Nat} (hown : s.vm.findClass own = some m.cls) (w : (Jvm.Cond.classLink own index K).before a0 Z = true) (eT : T.heap = h) {a : Addr} (F : Ins Z h a K true) (hd : decode c.code pc = .ok (.instanceof index, 3)) (hp : pc + 3 = pc') (k : ∀ T', Stand p l e R s m args below meth c T' locs cells slots → T'.heap = h → Ends p.tables e below (T'.setTop (mkF m pc' ls (.int 1 :: st))) P) : Ends p.tables e below (T.setTop (mkF m pc ls (.ref a :: st))) P := by
  subst hp
  obtain ⟨T', X', e', s'⟩ := instY X hx hZ hown w eT F (g := mkF m pc ls (.ref a :: st)) rfl rfl hd
  exact own_via s' (k T' X' e')
theorem s_callS (X : Stand p l e R s m args below meth c T locs cells slots) (hx : p.tables.exec = Jvm.exec) (hZ : Z.Warmed39 s.vm) {y : MethodName} {bytes : ByteArray} {maxL : Nat} {ret : Option FieldType} {rm : Room} {W : Nat} {as' : Array Value} {Q : Option Value → Heap → List Loc → Prop} {own : String} {index : Nat} (hown : s.vm.findClass own = some m.cls) (w1 : (Jvm.Cond.methodLink own index y).before a0 Z = true) (w2 : (Jvm.Cond.static y).before a0 Z = true) (w3 : (Jvm.Cond.initialized y.cls).before a0 Z = true) (w4 : (Jvm.Cond.code y bytes maxL ret).before a0 Z = true) (hy : y.cls ≠ "java/lang/invoke/MethodHandle" ∧ y.cls ≠ "java/lang/invoke/VarHandle") (eT : T.heap = h) (hM : MetFree l y (head1 [Jvm.Cond.code y bytes maxL ret] rm) (fun a U => a = as' ∧ Z.Warmed39 U.vm ∧ U.heap = h) (fun _ _ _ _ _ => True) (fun _ U o U' => ∃ v L, o = .returned v ∧ Q v U'.heap L ∧ FrameEnd U o U' L rm.cells rm.slots)) (hsize : ls.size = c.maxLocals) (argsL rest : List Value) (has : as' = argsL.toArray) (hlen : ∀ sig, parseMethodDescriptor y.desc = some sig → argsL.length = sig.parameters.length) (hstack : st = argsL.reverse ++ rest) (hW : (rest.map fun v => v.category).sum ≤ W) (hf : rm.frames + 1 ≤ R.frames) (hl : W + (maxL + 11) + rm.locals ≤ R.locals) (hce : cells + rm.cells ≤ R.cells) (hsl : slots + rm.slots ≤ R.slots) (hp : pc + 3 = pc') (hd : decode c.code pc = .ok (.invokestatic index, 3)) (k : ∀ T' v L, Stand p l e R s m args below meth c T' (locs ++ L) (cells + rm.cells) (slots + rm.slots) → Q v T'.heap L → Ends p.tables e below (T'.setTop (mkF m pc' ls (v.toList ++ rest))) P) : Ends p.tables e below (T.setTop (mkF m pc ls st)) P := by
  subst hp has hstack
  obtain ⟨v, _, ⟨T', _, _, _⟩, -, X', ⟨L, hQ, e1, e2, e3⟩, s'⟩ := Jvm.LawKit.callS X hx (y := y) hown (mvT hZ w1) (mvT hZ w2) (mvT hZ w3) (mvT hZ w4) hy (backOf (W := W) hM hZ w4 w3 hf hl) (g := mkF m pc ls (argsL.reverse ++ rest)) rfl hsize (argsL := argsL) (rest := rest) hlen rfl (by show 2 * 0 + _ ≤ _; omega) hd (fun _ _ => ⟨rfl, eT, hce, hsl⟩)
  dsimp only [Pt.U, Pt.locs, Pt.cells, Pt.slots] at X' e1 e2 e3 s' hQ
  subst e1 e2 e3
  exact own_via s' (k T' v L X' hQ)
theorem s_callI (X : Stand p l e R s m args below meth c T locs cells slots) (hx : p.tables.exec = Jvm.exec) (hZ : Z.Warmed39 s.vm) {y : MethodName} {bytes : ByteArray} {maxL : Nat} {rm : Room} {W : Nat} {as' : Array Value} {Q : Option Value → Heap → List Loc → Prop} {own : String} {index : Nat} (hy1 : y.name = "<init>") (hown : s.vm.findClass own = some m.cls) (w1 : (Jvm.Cond.methodLink own index y).before a0 Z = true) (w2 : (Jvm.Cond.instanceMethod y).before a0 Z = true) (w3 : (Jvm.Cond.initialized y.cls).before a0 Z = true) (w4 : (Jvm.Cond.code y bytes maxL none).before a0 Z = true) (hy : y.cls ≠ "java/lang/invoke/MethodHandle" ∧ y.cls ≠ "java/lang/invoke/VarHandle") (eT : T.heap = h) (hM : MetFree l y (head1 [Jvm.Cond.code y bytes maxL none] rm) (fun a U => a = as' ∧ Z.Warmed39 U.vm ∧ U.heap = h) (fun _ _ _ _ _ => True) (fun _ U o U' => ∃ v L, o = .returned v ∧ Q v U'.heap L ∧ FrameEnd U o U' L rm.cells rm.slots)) (a : Addr) (hsize : ls.size = c.maxLocals) (argsL rest : List Value) (has : as' = (.ref a :: argsL).toArray) (hlen : ∀ sig, parseMethodDescriptor y.desc = some sig → argsL.length = sig.parameters.length) (hstack : st = argsL.reverse ++ .ref a :: rest) (hW : (rest.map fun v => v.category).sum ≤ W) (hf : rm.frames + 1 ≤ R.frames) (hl : W + (maxL + 11) + rm.locals ≤ R.locals) (hce : cells + rm.cells ≤ R.cells) (hsl : slots + rm.slots ≤ R.slots) (hp : pc + 3 = pc') (hd : decode c.code pc = .ok (.invokespecial index, 3)) (k : ∀ T' v L, Stand p l e R s m args below meth c T' (locs ++ L) (cells + rm.cells) (slots + rm.slots) → Q v T'.heap L → Ends p.tables e below (T'.setTop (mkF m pc' ls (v.toList ++ rest))) P) : Ends p.tables e below (T.setTop (mkF m pc ls st)) P := by
  subst hp has hstack
  obtain ⟨v, _, ⟨T', _, _, _⟩, -, X', ⟨L, hQ, e1, e2, e3⟩, s'⟩ := X.specialBack hx (y := y) hy1 hown (mvT hZ w1) (mvT hZ w2) (mvT hZ w4) hy (backOf (W := W) hM hZ w4 w3 hf hl) (g := mkF m pc ls (argsL.reverse ++ .ref a :: rest)) rfl hsize (Steps.refl _) (a := a) (argsL := argsL) (rest := rest) hlen rfl (by show 2 * 0 + _ ≤ _; omega) hd (fun _ _ => ⟨rfl, eT, hce, hsl⟩)
  dsimp only [Pt.U, Pt.locs, Pt.cells, Pt.slots] at X' e1 e2 e3 s' hQ
  subst e1 e2 e3
  exact own_via (fun t_ k_ => s'.trans k_) (k T' v L X' hQ)
theorem s_callV (X : Stand p l e R s m args below meth c T locs cells slots) (hx : p.tables.exec = Jvm.exec) (hZ : Z.Warmed39 s.vm) {y : MethodName} {bytes : ByteArray} {maxL : Nat} {ret : Option FieldType} {rm : Room} {W : Nat} {as' : Array Value} {Q : Option Value → Heap → List Loc → Prop} {a : Addr} {own C : String} {index : Nat} (hown : s.vm.findClass own = some m.cls) (w1 : (Jvm.Cond.methodLink own index y).before a0 Z = true) (w2 : (Jvm.Cond.declares y).before a0 Z = true) (w3 : (Jvm.Cond.initialized y.cls).before a0 Z = true) (w4 : (Jvm.Cond.code y bytes maxL ret).before a0 Z = true) (w5 : (Jvm.Cond.selects C y y).before a0 Z = true) (w6 : (Jvm.Cond.instanceMethod y).before a0 Z = true) (hy : y.cls ≠ "java/lang/invoke/MethodHandle" ∧ y.cls ≠ "java/lang/invoke/VarHandle") (eT : T.heap = h) (E : Exa Z h a C) (hM : MetFree l y (head1 [Jvm.Cond.code y bytes maxL ret] rm) (fun a U => a = as' ∧ Z.Warmed39 U.vm ∧ U.heap = h) (fun _ _ _ _ _ => True) (fun _ U o U' => ∃ v L, o = .returned v ∧ Q v U'.heap L ∧ FrameEnd U o U' L rm.cells rm.slots)) (hsize : ls.size = c.maxLocals) (argsL rest : List Value) (has : as' = (.ref a :: argsL).toArray) (hlen : ∀ sig, parseMethodDescriptor y.desc = some sig → argsL.length = sig.parameters.length) (hstack : st = argsL.reverse ++ .ref a :: rest) (hW : (rest.map fun v => v.category).sum ≤ W) (hf : rm.frames + 1 ≤ R.frames) (hl : W + (maxL + 11) + rm.locals ≤ R.locals) (hce : cells + rm.cells ≤ R.cells) (hsl : slots + rm.slots ≤ R.slots) (hp : pc + 3 = pc') (hd : decode c.code pc = .ok (.invokevirtual index, 3)) (k : ∀ T' v L, Stand p l e R s m args below meth c T' (locs ++ L) (cells + rm.cells) (slots + rm.slots) → Q v T'.heap L → Ends p.tables e below (T'.setTop (mkF m pc' ls (v.toList ++ rest))) P) : Ends p.tables e below (T.setTop (mkF m pc ls st)) P := by
  subst hp has hstack
  obtain ⟨cq, kq, qa, qb, qc⟩ := isOf hZ eT E
  obtain ⟨v, _, ⟨T', _, _, _⟩, -, X', ⟨L, hQ, e1, e2, e3⟩, s'⟩ := X.virtualBack hx (y := y) (z := y) hown (mvT hZ w1) (mvT hZ w2) (notFace_of_selects (args := #[]) (mvT hZ w5)) (mvT hZ w5) (mvT hZ w6) hy (backOf (W := W) hM hZ w4 w3 hf hl) qa qc (g := mkF m pc ls (argsL.reverse ++ .ref a :: rest)) rfl hsize (Steps.refl _) (argsL := argsL) (rest := rest) hlen rfl (by show 2 * 0 + _ ≤ _; omega) hd (fun _ _ => ⟨rfl, eT, hce, hsl⟩)
  dsimp only [Pt.U, Pt.locs, Pt.cells, Pt.slots] at X' e1 e2 e3 s' hQ
  subst e1 e2 e3
  exact own_via (fun t_ k_ => s'.trans k_) (k T' v L X' hQ)
theorem s_callP (X : Stand p l e R s m args below meth c T locs cells slots) (hx : p.tables.exec = Jvm.exec) (hZ : Z.Warmed39 s.vm) {y : MethodName} {bytes : ByteArray} {maxL : Nat} {ret : Option FieldType} {rm : Room} {W : Nat} {as' : Array Value} {Q : Option Value → Heap → List Loc → Prop} {a : Addr} {own C : String} {index : Nat} {zz : MethodName} (hzz : zz.cls = y.cls) (hown : s.vm.findClass own = some m.cls) (w1 : (Jvm.Cond.methodLink own index y).before a0 Z = true) (w2 : (Jvm.Cond.privateMethod y).before a0 Z = true) (w3 : (Jvm.Cond.initialized y.cls).before a0 Z = true) (w4 : (Jvm.Cond.code y bytes maxL ret).before a0 Z = true) (w5 : (Jvm.Cond.selects zz.cls zz zz).before a0 Z = true) (w6 : (Jvm.Cond.instanceMethod y).before a0 Z = true) (hy : y.cls ≠ "java/lang/invoke/MethodHandle" ∧ y.cls ≠ "java/lang/invoke/VarHandle") (eT : T.heap = h) (E : Exa Z h a C) (hM : MetFree l y (head1 [Jvm.Cond.code y bytes maxL ret] rm) (fun a U => a = as' ∧ Z.Warmed39 U.vm ∧ U.heap = h) (fun _ _ _ _ _ => True) (fun _ U o U' => ∃ v L, o = .returned v ∧ Q v U'.heap L ∧ FrameEnd U o U' L rm.cells rm.slots)) (hsize : ls.size = c.maxLocals) (argsL rest : List Value) (has : as' = (.ref a :: argsL).toArray) (hlen : ∀ sig, parseMethodDescriptor y.desc = some sig → argsL.length = sig.parameters.length) (hstack : st = argsL.reverse ++ .ref a :: rest) (hW : (rest.map fun v => v.category).sum ≤ W) (hf : rm.frames + 1 ≤ R.frames) (hl : W + (maxL + 11) + rm.locals ≤ R.locals) (hce : cells + rm.cells ≤ R.cells) (hsl : slots + rm.slots ≤ R.slots) (hp : pc + 3 = pc') (hd : decode c.code pc = .ok (.invokevirtual index, 3)) (k : ∀ T' v L, Stand p l e R s m args below meth c T' (locs ++ L) (cells + rm.cells) (slots + rm.slots) → Q v T'.heap L → Ends p.tables e below (T'.setTop (mkF m pc' ls (v.toList ++ rest))) P) : Ends p.tables e below (T.setTop (mkF m pc ls st)) P := by
  subst hp has hstack
  obtain ⟨cq, qa, qb⟩ := E.cell
  have hpr := Cond.privateMethod_at (mvP hZ w2 (args := #[]))
  obtain ⟨v, _, ⟨T', _, _, _⟩, -, X', ⟨L, hQ, e1, e2, e3⟩, s'⟩ := X.privateBack hx (y := y) hown (mvT hZ w1) (mvT hZ w6) (own_selPriv hzz (mvT hZ w5) hpr (mvT hZ w6) hy) hpr (mvT hZ w4) hy (backOf (W := W) hM hZ w4 w3 hf hl) (g := mkF m pc ls (argsL.reverse ++ .ref a :: rest)) rfl hsize (Steps.refl _) (a := a) (by rw [eT]; exact qa) qb (argsL := argsL) (rest := rest) hlen rfl (by show 2 * 0 + _ ≤ _; omega) hd (fun _ _ => ⟨rfl, eT, hce, hsl⟩)
  dsimp only [Pt.U, Pt.locs, Pt.cells, Pt.slots] at X' e1 e2 e3 s' hQ
  subst e1 e2 e3
  exact own_via (fun t_ k_ => s'.trans k_) (k T' v L X' hQ)
theorem s_irem (X : Stand p l e R s m args below meth c T locs cells slots) (hx : p.tables.exec = Jvm.exec) {x y : Int32} (hd : decode c.code pc = .ok (.irem, 1)) (hy : y ≠ 0) (hp : pc + 1 = pc') (hr : Ends p.tables e below (T.setTop (mkF m pc' ls (.int (x % y) :: st))) P) : Ends p.tables e below (T.setTop (mkF m pc ls (.int y :: .int x :: st))) P := by
  subst hp
  exact own_via (fun t_ k_ => iremM X hx rfl hd rfl hy k_) hr
theorem s_ldcI (X : Stand p l e R s m args below meth c T locs cells slots) (hx : p.tables.exec = Jvm.exec) (hZ : Z.Warmed39 s.vm) {own : String} {index : Nat} {v : Int32} (hown : s.vm.findClass own = some m.cls) (w : (Jvm.Cond.constant own index v).before a0 Z = true) (hd : decode c.code pc = .ok (.ldc index, 2)) (hp : pc + 2 = pc') (hr : Ends p.tables e below (T.setTop (mkF m pc' ls (.int v :: st))) P) : Ends p.tables e below (T.setTop (mkF m pc ls st)) P := by
  subst hp
  exact own_via (X.ldcInt hx hown (mvT hZ w) (g := mkF m pc ls st) rfl hd) hr
theorem s_ldcJ (X : Stand p l e R s m args below meth c T locs cells slots) (hx : p.tables.exec = Jvm.exec) (hZ : Z.Warmed39 s.vm) {own : String} {index : Nat} {v : Int64} (hown : s.vm.findClass own = some m.cls) (w : (Jvm.Cond.constantLong own index v).before a0 Z = true) (hd : decode c.code pc = .ok (.ldc2_w index, 3)) (hp : pc + 3 = pc') (hr : Ends p.tables e below (T.setTop (mkF m pc' ls (.long v :: st))) P) : Ends p.tables e below (T.setTop (mkF m pc ls st)) P := by
  subst hp
  exact own_via (X.ldc2Long hx hown (mvT hZ w) (g := mkF m pc ls st) rfl hd) hr
theorem s_callSS {vm0 : Vm} (X : Stand p l e R (s.setVm vm0) m args below meth c T locs cells slots) (hx : p.tables.exec = Jvm.exec) (hZ : Z.Warmed39 (s.setVm vm0).vm) {k0 : Nat} (hS : s.Since vm0 k0) (hk : k0 ≤ h.size) {y : MethodName} {bytes : ByteArray} {maxL : Nat} {ret : Option FieldType} {rm : Room} {W : Nat} {as' : Array Value} {Q : Option Value → Heap → List Loc → Prop} {own : String} {index : Nat} (hown : (s.setVm vm0).vm.findClass own = some m.cls) (w1 : (Jvm.Cond.methodLink own index y).before a0 Z = true) (w2 : (Jvm.Cond.static y).before a0 Z = true) (w3 : (Jvm.Cond.initialized y.cls).before a0 Z = true) (w4 : (Jvm.Cond.code y bytes maxL ret).before a0 Z = true) (hy : y.cls ≠ "java/lang/invoke/MethodHandle" ∧ y.cls ≠ "java/lang/invoke/VarHandle") (eT : T.heap = h) (hM : MetFree l y (head1 [Jvm.Cond.code y bytes maxL ret] rm) (fun a U => a = as' ∧ Z.Warmed39 U.vm ∧ U.heap = h) (fun _ _ _ _ _ => True) (fun _ U o U' => ∃ v L, o = .returned v ∧ Q v U'.heap L ∧ ReturnedEndW U o U' L rm.cells rm.slots)) (hsize : ls.size = c.maxLocals) (argsL rest : List Value) (has : as' = argsL.toArray) (hlen : ∀ sig, parseMethodDescriptor y.desc = some sig → argsL.length = sig.parameters.length) (hstack : st = argsL.reverse ++ rest) (hW : (rest.map fun v => v.category).sum ≤ W) (hf : rm.frames + 1 ≤ R.frames) (hl : W + (maxL + 11) + rm.locals ≤ R.locals) (hce : cells + rm.cells ≤ R.cells) (hsl : slots + rm.slots ≤ R.slots) (hp : pc + 3 = pc') (hd : decode c.code pc = .ok (.invokestatic index, 3)) (k : ∀ T' v L, Stand p l e R (s.setVm T'.vm) m args below meth c T' (locs ++ L) (cells + rm.cells) (slots + rm.slots) → s.Since T'.vm T'.heap.size → Z.Warmed39 (s.setVm T'.vm).vm → (s.setVm T'.vm).vm.findClass own = some m.cls → Q v T'.heap L → Ends p.tables e below (T'.setTop (mkF m pc' ls (v.toList ++ rest))) P) : Ends p.tables e below (T.setTop (mkF m pc ls st)) P := by
  subst hp has hstack
  obtain ⟨v, _, ⟨T', _, _, _⟩, -, X', S', g', ⟨L, hQ, e1, e2, e3⟩, s'⟩ := callSS X hx (y := y) hown (mvT hZ w1) (mvT hZ w2) (mvT hZ w3) (mvT hZ w4) hy (backOfS (W := W) hM hZ w4 w3 hf hl) (g := mkF m pc ls (argsL.reverse ++ rest)) rfl hsize (argsL := argsL) (rest := rest) hlen rfl (by show 2 * 0 + _ ≤ _; omega) hd (fun _ _ => ⟨rfl, eT, hce, hsl⟩)
  dsimp only [Pt.U, Pt.locs, Pt.cells, Pt.slots] at X' S' g' e1 e2 e3 s' hQ
  subst e1 e2 e3
  obtain ⟨X2, S2, Z2, o2⟩ := rebS hS (show _ ≤ T.heap.size by rw [eT]; exact hk) X' S' g' hZ hown
  exact own_via (fun t_ k_ => s'.trans k_) (k T' v L X2 S2 Z2 o2 hQ)
theorem s_callIS {vm0 : Vm} (X : Stand p l e R (s.setVm vm0) m args below meth c T locs cells slots) (hx : p.tables.exec = Jvm.exec) (hZ : Z.Warmed39 (s.setVm vm0).vm) {k0 : Nat} (hS : s.Since vm0 k0) (hk : k0 ≤ h.size) {y : MethodName} {bytes : ByteArray} {maxL : Nat} {rm : Room} {W : Nat} {as' : Array Value} {Q : Option Value → Heap → List Loc → Prop} {own : String} {index : Nat} (hown : (s.setVm vm0).vm.findClass own = some m.cls) (hy1 : y.name = "<init>") (w1 : (Jvm.Cond.methodLink own index y).before a0 Z = true) (w2 : (Jvm.Cond.instanceMethod y).before a0 Z = true) (w3 : (Jvm.Cond.initialized y.cls).before a0 Z = true) (w4 : (Jvm.Cond.code y bytes maxL none).before a0 Z = true) (hy : y.cls ≠ "java/lang/invoke/MethodHandle" ∧ y.cls ≠ "java/lang/invoke/VarHandle") (eT : T.heap = h) (hM : MetFree l y (head1 [Jvm.Cond.code y bytes maxL none] rm) (fun a U => a = as' ∧ Z.Warmed39 U.vm ∧ U.heap = h) (fun _ _ _ _ _ => True) (fun _ U o U' => ∃ v L, o = .returned v ∧ Q v U'.heap L ∧ ReturnedEndW U o U' L rm.cells rm.slots)) (a : Addr) (hsize : ls.size = c.maxLocals) (argsL rest : List Value) (has : as' = (.ref a :: argsL).toArray) (hlen : ∀ sig, parseMethodDescriptor y.desc = some sig → argsL.length = sig.parameters.length) (hstack : st = argsL.reverse ++ .ref a :: rest) (hW : (rest.map fun v => v.category).sum ≤ W) (hf : rm.frames + 1 ≤ R.frames) (hl : W + (maxL + 11) + rm.locals ≤ R.locals) (hce : cells + rm.cells ≤ R.cells) (hsl : slots + rm.slots ≤ R.slots) (hp : pc + 3 = pc') (hd : decode c.code pc = .ok (.invokespecial index, 3)) (k : ∀ T' v L, Stand p l e R (s.setVm T'.vm) m args below meth c T' (locs ++ L) (cells + rm.cells) (slots + rm.slots) → s.Since T'.vm T'.heap.size → Z.Warmed39 (s.setVm T'.vm).vm → (s.setVm T'.vm).vm.findClass own = some m.cls → Q v T'.heap L → Ends p.tables e below (T'.setTop (mkF m pc' ls (v.toList ++ rest))) P) : Ends p.tables e below (T.setTop (mkF m pc ls st)) P := by
  subst hp has hstack
  obtain ⟨v, _, ⟨T', _, _, _⟩, -, X', S', g', ⟨L, hQ, e1, e2, e3⟩, s'⟩ := X.specialBackS hx (y := y) hy1 hown (mvT hZ w1) (mvT hZ w2) (mvT hZ w4) hy (backOfS (W := W) hM hZ w4 w3 hf hl) (g := mkF m pc ls (argsL.reverse ++ .ref a :: rest)) rfl hsize (Steps.refl _) (a := a) (argsL := argsL) (rest := rest) hlen rfl (by show 2 * 0 + _ ≤ _; omega) hd (fun _ _ => ⟨rfl, eT, hce, hsl⟩)
  dsimp only [Pt.U, Pt.locs, Pt.cells, Pt.slots] at X' S' g' e1 e2 e3 s' hQ
  subst e1 e2 e3
  obtain ⟨X2, S2, Z2, o2⟩ := rebS hS (show _ ≤ T.heap.size by rw [eT]; exact hk) X' S' g' hZ hown
  exact own_via (fun t_ k_ => s'.trans k_) (k T' v L X2 S2 Z2 o2 hQ)
theorem s_callVS {vm0 : Vm} (X : Stand p l e R (s.setVm vm0) m args below meth c T locs cells slots) (hx : p.tables.exec = Jvm.exec) (hZ : Z.Warmed39 (s.setVm vm0).vm) {k0 : Nat} (hS : s.Since vm0 k0) (hk : k0 ≤ h.size) {y : MethodName} {bytes : ByteArray} {maxL : Nat} {ret : Option FieldType} {rm : Room} {W : Nat} {as' : Array Value} {Q : Option Value → Heap → List Loc → Prop} {a : Addr} {C : String} {own : String} {index : Nat} (hown : (s.setVm vm0).vm.findClass own = some m.cls) (w1 : (Jvm.Cond.methodLink own index y).before a0 Z = true) (w2 : (Jvm.Cond.declares y).before a0 Z = true) (w3 : (Jvm.Cond.initialized y.cls).before a0 Z = true) (w4 : (Jvm.Cond.code y bytes maxL ret).before a0 Z = true) (w5 : (Jvm.Cond.selects C y y).before a0 Z = true) (w6 : (Jvm.Cond.instanceMethod y).before a0 Z = true) (hy : y.cls ≠ "java/lang/invoke/MethodHandle" ∧ y.cls ≠ "java/lang/invoke/VarHandle") (eT : T.heap = h) (E : Exa Z h a C) (hM : MetFree l y (head1 [Jvm.Cond.code y bytes maxL ret] rm) (fun a U => a = as' ∧ Z.Warmed39 U.vm ∧ U.heap = h) (fun _ _ _ _ _ => True) (fun _ U o U' => ∃ v L, o = .returned v ∧ Q v U'.heap L ∧ ReturnedEndW U o U' L rm.cells rm.slots)) (hsize : ls.size = c.maxLocals) (argsL rest : List Value) (has : as' = (.ref a :: argsL).toArray) (hlen : ∀ sig, parseMethodDescriptor y.desc = some sig → argsL.length = sig.parameters.length) (hstack : st = argsL.reverse ++ .ref a :: rest) (hW : (rest.map fun v => v.category).sum ≤ W) (hf : rm.frames + 1 ≤ R.frames) (hl : W + (maxL + 11) + rm.locals ≤ R.locals) (hce : cells + rm.cells ≤ R.cells) (hsl : slots + rm.slots ≤ R.slots) (hp : pc + 3 = pc') (hd : decode c.code pc = .ok (.invokevirtual index, 3)) (k : ∀ T' v L, Stand p l e R (s.setVm T'.vm) m args below meth c T' (locs ++ L) (cells + rm.cells) (slots + rm.slots) → s.Since T'.vm T'.heap.size → Z.Warmed39 (s.setVm T'.vm).vm → (s.setVm T'.vm).vm.findClass own = some m.cls → Q v T'.heap L → Ends p.tables e below (T'.setTop (mkF m pc' ls (v.toList ++ rest))) P) : Ends p.tables e below (T.setTop (mkF m pc ls st)) P := by
  subst hp has hstack
  obtain ⟨cq, kq, qa, qb, qc⟩ := isOf hZ eT E
  obtain ⟨v, _, ⟨T', _, _, _⟩, -, X', S', g', ⟨L, hQ, e1, e2, e3⟩, s'⟩ := X.virtualBackS hx (y := y) (z := y) hown (mvT hZ w1) (mvT hZ w2) (notFace_of_selects (args := #[]) (mvT hZ w5)) (mvT hZ w5) (mvT hZ w6) hy (backOfS (W := W) hM hZ w4 w3 hf hl) qa qc (g := mkF m pc ls (argsL.reverse ++ .ref a :: rest)) rfl hsize (Steps.refl _) (argsL := argsL) (rest := rest) hlen rfl (by show 2 * 0 + _ ≤ _; omega) hd (fun _ _ => ⟨rfl, eT, hce, hsl⟩)
  dsimp only [Pt.U, Pt.locs, Pt.cells, Pt.slots] at X' S' g' e1 e2 e3 s' hQ
  subst e1 e2 e3
  obtain ⟨X2, S2, Z2, o2⟩ := rebS hS (show _ ≤ T.heap.size by rw [eT]; exact hk) X' S' g' hZ hown
  exact own_via (fun t_ k_ => s'.trans k_) (k T' v L X2 S2 Z2 o2 hQ)
theorem s_ldcS {vm0 : Vm} (X : Stand p l e R (s.setVm vm0) m args below meth c T locs cells slots) (hx : p.tables.exec = Jvm.exec) (hZ : Z.Warmed39 (s.setVm vm0).vm) {k0 : Nat} (hS : s.Since vm0 k0) (hk : k0 ≤ h.size) {own : String} {index : Nat} (hown : (s.setVm vm0).vm.findClass own = some m.cls) {text : String} (w : (Jvm.Cond.stringLink own index text).before a0 Z = true) (wS : ∀ a ∈ Bundle.stringAtoms, a.before a0 Z = true) (eT : T.heap = h) (hd : decode c.code pc = .ok (.ldc index, 2)) {n : Nat} (hn : 4 * text.toList.length ≤ n) (hbig : n ≤ 536870912) (hc : cells + 2 ≤ R.cells) (hl : slots + (n + 4) ≤ R.slots) (hp : pc + 2 = pc') (k : ∀ a T' h' k1, Stand p l e R (s.setVm T'.vm) m args below meth c T' locs (cells + 2) (slots + (n + 4)) → T'.heap = h' → Ext h h' → s.Since T'.vm k1 → k1 ≤ h'.size → Z.Warmed39 (s.setVm T'.vm).vm → (s.setVm T'.vm).vm.findClass own = some m.cls → Ends p.tables e below (T'.setTop (mkF m pc' ls (.ref a :: st))) P) : Ends p.tables e below (T.setTop (mkF m pc ls st)) P := by
  subst hp
  obtain ⟨a, T', h', k1, X', e', E', S', g', Z', o', s'⟩ := ldcS X hx hZ hown w wS eT hS hk (g := mkF m pc ls st) rfl hd hn hbig hc hl
  exact own_via s' (k a T' h' k1 X' e' E' S' g' Z' o')
theorem s_ldcSW {vm0 : Vm} (X : Stand p l e R (s.setVm vm0) m args below meth c T locs cells slots) (hx : p.tables.exec = Jvm.exec) (hZ : Z.Warmed39 (s.setVm vm0).vm) {k0 : Nat} (hS : s.Since vm0 k0) (hk : k0 ≤ h.size) {own : String} {index : Nat} (hown : (s.setVm vm0).vm.findClass own = some m.cls) {text : String} (w : (Jvm.Cond.stringLink own index text).before a0 Z = true) (wS : ∀ a ∈ Bundle.stringAtoms, a.before a0 Z = true) (eT : T.heap = h) (hd : decode c.code pc = .ok (.ldc_w index, 3)) {n : Nat} (hn : 4 * text.toList.length ≤ n) (hbig : n ≤ 536870912) (hc : cells + 2 ≤ R.cells) (hl : slots + (n + 4) ≤ R.slots) (hp : pc + 3 = pc') (k : ∀ a T' h' k1, Stand p l e R (s.setVm T'.vm) m args below meth c T' locs (cells + 2) (slots + (n + 4)) → T'.heap = h' → Ext h h' → s.Since T'.vm k1 → k1 ≤ h'.size → Z.Warmed39 (s.setVm T'.vm).vm → (s.setVm T'.vm).vm.findClass own = some m.cls → Ends p.tables e below (T'.setTop (mkF m pc' ls (.ref a :: st))) P) : Ends p.tables e below (T.setTop (mkF m pc ls st)) P := by
  subst hp
  obtain ⟨a, T', h', k1, X', e', E', S', g', Z', o', s'⟩ := ldcSW X hx hZ hown w wS eT hS hk (g := mkF m pc ls st) rfl hd hn hbig hc hl
  exact own_via s' (k a T' h' k1 X' e' E' S' g' Z' o')
end OwnLaws

theorem own_idx {o i : Int32} {n k : Nat} (h0 : ¬ o < 0) (hn : o.toNatClampNeg = n) (hi : i.toInt = (k : Int)) (hb : n + k < 40) : ¬ (o + i) < 0 ∧ (o + i) < (40 : Int32) ∧ (o + i).toNatClampNeg = n + k := by
  have a := nat_of h0
  have b := c_iadd o i
  have r := rng32 (o + i)
  have z : (0 : Int32).toInt = 0 := by decide
  have f : (40 : Int32).toInt = 40 := by decide
  have q : ¬ (o + i) < 0 := by
    rw [Int32.lt_iff_toInt_lt]
    omega
  have d := nat_of q
  refine ⟨q, ?_, ?_⟩
  · rw [Int32.lt_iff_toInt_lt]
    omega
  · omega
/-- the byte i of w, as put stores it -/
def own_b0 (w : Int64) : Int32 := (nar .byte ((w.toInt32).toInt8.toInt32))
def own_b1 (w : Int64) : Int32 := (nar .byte ((((w.toUInt64 >>> ((8 : Int32) &&& 0x3f).toInt64.toUInt64).toInt64).toInt32).toInt8.toInt32))
def own_b2 (w : Int64) : Int32 := (nar .byte ((((w.toUInt64 >>> ((16 : Int32) &&& 0x3f).toInt64.toUInt64).toInt64).toInt32).toInt8.toInt32))
def own_b3 (w : Int64) : Int32 := (nar .byte ((((w.toUInt64 >>> ((24 : Int32) &&& 0x3f).toInt64.toUInt64).toInt64).toInt32).toInt8.toInt32))
def own_b4 (w : Int64) : Int32 := (nar .byte ((((w.toUInt64 >>> ((32 : Int32) &&& 0x3f).toInt64.toUInt64).toInt64).toInt32).toInt8.toInt32))
def own_b5 (w : Int64) : Int32 := (nar .byte ((((w.toUInt64 >>> ((40 : Int32) &&& 0x3f).toInt64.toUInt64).toInt64).toInt32).toInt8.toInt32))
def own_b6 (w : Int64) : Int32 := (nar .byte ((((w.toUInt64 >>> ((48 : Int32) &&& 0x3f).toInt64.toUInt64).toInt64).toInt32).toInt8.toInt32))
def own_b7 (w : Int64) : Int32 := (nar .byte ((((w.toUInt64 >>> ((56 : Int32) &&& 0x3f).toInt64.toUInt64).toInt64).toInt32).toInt8.toInt32))
def own_put (vs : List Value) (n : Nat) (w : Int64) : List Value := ((((((((vs.set n (.int (own_b0 w))).set (n + 1) (.int (own_b1 w))).set (n + 2) (.int (own_b2 w))).set (n + 3) (.int (own_b3 w))).set (n + 4) (.int (own_b4 w))).set (n + 5) (.int (own_b5 w))).set (n + 6) (.int (own_b6 w))).set (n + 7) (.int (own_b7 w)))
theorem own_putLen (vs : List Value) (n : Nat) (w : Int64) : (own_put vs n w).length = vs.length := by simp [own_put]
theorem own_putOut (vs : List Value) (n : Nat) (w : Int64) (d : Value) (i : Nat) (h : i < n ∨ n + 8 ≤ i) : (own_put vs n w).getD i d = vs.getD i d := by
  simp only [own_put, List.getD_eq_getElem?_getD]
  rw [List.getElem?_set_ne (by omega), List.getElem?_set_ne (by omega), List.getElem?_set_ne (by omega), List.getElem?_set_ne (by omega), List.getElem?_set_ne (by omega), List.getElem?_set_ne (by omega), List.getElem?_set_ne (by omega), List.getElem?_set_ne (by omega)]
theorem own_putIn (vs : List Value) (n : Nat) (w : Int64) (d : Value) (h : n + 8 ≤ vs.length) : (own_put vs n w).getD n d = .int (own_b0 w) ∧ (own_put vs n w).getD (n + 1) d = .int (own_b1 w) ∧ (own_put vs n w).getD (n + 2) d = .int (own_b2 w) ∧ (own_put vs n w).getD (n + 3) d = .int (own_b3 w) ∧ (own_put vs n w).getD (n + 4) d = .int (own_b4 w) ∧ (own_put vs n w).getD (n + 5) d = .int (own_b5 w) ∧ (own_put vs n w).getD (n + 6) d = .int (own_b6 w) ∧ (own_put vs n w).getD (n + 7) d = .int (own_b7 w) := by
  refine ⟨?_, ?_, ?_, ?_, ?_, ?_, ?_, ?_⟩ <;> simp only [own_put, List.getD_eq_getElem?_getD]
  · rw [List.getElem?_set_ne (by omega), List.getElem?_set_ne (by omega), List.getElem?_set_ne (by omega), List.getElem?_set_ne (by omega), List.getElem?_set_ne (by omega), List.getElem?_set_ne (by omega), List.getElem?_set_ne (by omega), List.getElem?_set_self (by first | omega | (simp only [List.length_set]; omega))]
    rfl
  · rw [List.getElem?_set_ne (by omega), List.getElem?_set_ne (by omega), List.getElem?_set_ne (by omega), List.getElem?_set_ne (by omega), List.getElem?_set_ne (by omega), List.getElem?_set_ne (by omega), List.getElem?_set_self (by first | omega | (simp only [List.length_set]; omega))]
    rfl
  · rw [List.getElem?_set_ne (by omega), List.getElem?_set_ne (by omega), List.getElem?_set_ne (by omega), List.getElem?_set_ne (by omega), List.getElem?_set_ne (by omega), List.getElem?_set_self (by first | omega | (simp only [List.length_set]; omega))]
    rfl
  · rw [List.getElem?_set_ne (by omega), List.getElem?_set_ne (by omega), List.getElem?_set_ne (by omega), List.getElem?_set_ne (by omega), List.getElem?_set_self (by first | omega | (simp only [List.length_set]; omega))]
    rfl
  · rw [List.getElem?_set_ne (by omega), List.getElem?_set_ne (by omega), List.getElem?_set_ne (by omega), List.getElem?_set_self (by first | omega | (simp only [List.length_set]; omega))]
    rfl
  · rw [List.getElem?_set_ne (by omega), List.getElem?_set_ne (by omega), List.getElem?_set_self (by first | omega | (simp only [List.length_set]; omega))]
    rfl
  · rw [List.getElem?_set_ne (by omega), List.getElem?_set_self (by first | omega | (simp only [List.length_set]; omega))]
    rfl
  · rw [List.getElem?_set_self (by first | omega | (simp only [List.length_set]; omega))]
    rfl
theorem own_unar (x : Int32) : ((nar .byte (x.toInt8.toInt32)) &&& (255 : Int32)).toInt = x.toInt % 256 := by
  have n1 : nar .byte x.toInt8.toInt32 = x.toInt8.toInt32 := by
    show (x.toInt8.toInt32).toInt8.toInt32 = x.toInt8.toInt32
    simp
  rw [n1]
  have a := c_i2b x
  have b := c_mask x.toInt8.toInt32 255 8 (by decide) (by decide)
  omega
theorem own_unar7 (x : Int32) : ((nar .byte (x.toInt8.toInt32)) &&& (127 : Int32)).toInt = x.toInt % 128 := by
  have n1 : nar .byte x.toInt8.toInt32 = x.toInt8.toInt32 := by
    show (x.toInt8.toInt32).toInt8.toInt32 = x.toInt8.toInt32
    simp
  rw [n1]
  have a := c_i2b x
  have b := c_mask x.toInt8.toInt32 127 7 (by decide) (by decide)
  omega
theorem own_u0_255 (w : Int64) : (own_b0 w &&& (255 : Int32)).toInt = (w.toInt % 18446744073709551616 / 1) % 256 := by
  have a := own_unar (w.toInt32)
  have b := c_l2i w
  have r := rng64 w
  unfold own_b0
  omega
theorem own_u1_255 (w : Int64) : (own_b1 w &&& (255 : Int32)).toInt = (w.toInt % 18446744073709551616 / 256) % 256 := by
  have a := own_unar (((w.toUInt64 >>> ((8 : Int32) &&& 0x3f).toInt64.toUInt64).toInt64).toInt32)
  have b := c_l2i ((w.toUInt64 >>> ((8 : Int32) &&& 0x3f).toInt64.toUInt64).toInt64)
  have s := c_lushr w 8 8 (by decide) (by decide)
  have r := rng64 w
  unfold own_b1
  omega
theorem own_u2_255 (w : Int64) : (own_b2 w &&& (255 : Int32)).toInt = (w.toInt % 18446744073709551616 / 65536) % 256 := by
  have a := own_unar (((w.toUInt64 >>> ((16 : Int32) &&& 0x3f).toInt64.toUInt64).toInt64).toInt32)
  have b := c_l2i ((w.toUInt64 >>> ((16 : Int32) &&& 0x3f).toInt64.toUInt64).toInt64)
  have s := c_lushr w 16 16 (by decide) (by decide)
  have r := rng64 w
  unfold own_b2
  omega
theorem own_u3_255 (w : Int64) : (own_b3 w &&& (255 : Int32)).toInt = (w.toInt % 18446744073709551616 / 16777216) % 256 := by
  have a := own_unar (((w.toUInt64 >>> ((24 : Int32) &&& 0x3f).toInt64.toUInt64).toInt64).toInt32)
  have b := c_l2i ((w.toUInt64 >>> ((24 : Int32) &&& 0x3f).toInt64.toUInt64).toInt64)
  have s := c_lushr w 24 24 (by decide) (by decide)
  have r := rng64 w
  unfold own_b3
  omega
theorem own_u4_255 (w : Int64) : (own_b4 w &&& (255 : Int32)).toInt = (w.toInt % 18446744073709551616 / 4294967296) % 256 := by
  have a := own_unar (((w.toUInt64 >>> ((32 : Int32) &&& 0x3f).toInt64.toUInt64).toInt64).toInt32)
  have b := c_l2i ((w.toUInt64 >>> ((32 : Int32) &&& 0x3f).toInt64.toUInt64).toInt64)
  have s := c_lushr w 32 32 (by decide) (by decide)
  have r := rng64 w
  unfold own_b4
  omega
theorem own_u5_255 (w : Int64) : (own_b5 w &&& (255 : Int32)).toInt = (w.toInt % 18446744073709551616 / 1099511627776) % 256 := by
  have a := own_unar (((w.toUInt64 >>> ((40 : Int32) &&& 0x3f).toInt64.toUInt64).toInt64).toInt32)
  have b := c_l2i ((w.toUInt64 >>> ((40 : Int32) &&& 0x3f).toInt64.toUInt64).toInt64)
  have s := c_lushr w 40 40 (by decide) (by decide)
  have r := rng64 w
  unfold own_b5
  omega
theorem own_u6_255 (w : Int64) : (own_b6 w &&& (255 : Int32)).toInt = (w.toInt % 18446744073709551616 / 281474976710656) % 256 := by
  have a := own_unar (((w.toUInt64 >>> ((48 : Int32) &&& 0x3f).toInt64.toUInt64).toInt64).toInt32)
  have b := c_l2i ((w.toUInt64 >>> ((48 : Int32) &&& 0x3f).toInt64.toUInt64).toInt64)
  have s := c_lushr w 48 48 (by decide) (by decide)
  have r := rng64 w
  unfold own_b6
  omega
theorem own_u7_255 (w : Int64) : (own_b7 w &&& (255 : Int32)).toInt = (w.toInt % 18446744073709551616 / 72057594037927936) % 256 := by
  have a := own_unar (((w.toUInt64 >>> ((56 : Int32) &&& 0x3f).toInt64.toUInt64).toInt64).toInt32)
  have b := c_l2i ((w.toUInt64 >>> ((56 : Int32) &&& 0x3f).toInt64.toUInt64).toInt64)
  have s := c_lushr w 56 56 (by decide) (by decide)
  have r := rng64 w
  unfold own_b7
  omega
theorem own_u7_127 (w : Int64) : (own_b7 w &&& (127 : Int32)).toInt = (w.toInt % 18446744073709551616 / 72057594037927936) % 128 := by
  have a := own_unar7 (((w.toUInt64 >>> ((56 : Int32) &&& 0x3f).toInt64.toUInt64).toInt64).toInt32)
  have b := c_l2i ((w.toUInt64 >>> ((56 : Int32) &&& 0x3f).toInt64.toUInt64).toInt64)
  have s := c_lushr w 56 56 (by decide) (by decide)
  have r := rng64 w
  unfold own_b7
  omega
theorem own_d1_0 : decode method_2_code 0 = .ok (.aload_n 0, 1) := by decide +kernel
theorem own_d1_1 : decode method_2_code 1 = .ok (.iload_n 1, 1) := by decide +kernel
theorem own_d1_2 : decode method_2_code 2 = .ok (.lload_n 2, 1) := by decide +kernel
theorem own_d1_3 : decode method_2_code 3 = .ok (.l2i, 1) := by decide +kernel
theorem own_d1_4 : decode method_2_code 4 = .ok (.i2b, 1) := by decide +kernel
theorem own_d1_5 : decode method_2_code 5 = .ok (.bastore, 1) := by decide +kernel
theorem own_d1_6 : decode method_2_code 6 = .ok (.aload_n 0, 1) := by decide +kernel
theorem own_d1_7 : decode method_2_code 7 = .ok (.iload_n 1, 1) := by decide +kernel
theorem own_d1_8 : decode method_2_code 8 = .ok (.iconst 1, 1) := by decide +kernel
theorem own_d1_9 : decode method_2_code 9 = .ok (.iadd, 1) := by decide +kernel
theorem own_d1_10 : decode method_2_code 10 = .ok (.lload_n 2, 1) := by decide +kernel
theorem own_d1_11 : decode method_2_code 11 = .ok (.bipush 8, 2) := by decide +kernel
theorem own_d1_13 : decode method_2_code 13 = .ok (.lushr, 1) := by decide +kernel
theorem own_d1_14 : decode method_2_code 14 = .ok (.l2i, 1) := by decide +kernel
theorem own_d1_15 : decode method_2_code 15 = .ok (.i2b, 1) := by decide +kernel
theorem own_d1_16 : decode method_2_code 16 = .ok (.bastore, 1) := by decide +kernel
theorem own_d1_17 : decode method_2_code 17 = .ok (.aload_n 0, 1) := by decide +kernel
theorem own_d1_18 : decode method_2_code 18 = .ok (.iload_n 1, 1) := by decide +kernel
theorem own_d1_19 : decode method_2_code 19 = .ok (.iconst 2, 1) := by decide +kernel
theorem own_d1_20 : decode method_2_code 20 = .ok (.iadd, 1) := by decide +kernel
theorem own_d1_21 : decode method_2_code 21 = .ok (.lload_n 2, 1) := by decide +kernel
theorem own_d1_22 : decode method_2_code 22 = .ok (.bipush 16, 2) := by decide +kernel
theorem own_d1_24 : decode method_2_code 24 = .ok (.lushr, 1) := by decide +kernel
theorem own_d1_25 : decode method_2_code 25 = .ok (.l2i, 1) := by decide +kernel
theorem own_d1_26 : decode method_2_code 26 = .ok (.i2b, 1) := by decide +kernel
theorem own_d1_27 : decode method_2_code 27 = .ok (.bastore, 1) := by decide +kernel
theorem own_d1_28 : decode method_2_code 28 = .ok (.aload_n 0, 1) := by decide +kernel
theorem own_d1_29 : decode method_2_code 29 = .ok (.iload_n 1, 1) := by decide +kernel
theorem own_d1_30 : decode method_2_code 30 = .ok (.iconst 3, 1) := by decide +kernel
theorem own_d1_31 : decode method_2_code 31 = .ok (.iadd, 1) := by decide +kernel
theorem own_d1_32 : decode method_2_code 32 = .ok (.lload_n 2, 1) := by decide +kernel
theorem own_d1_33 : decode method_2_code 33 = .ok (.bipush 24, 2) := by decide +kernel
theorem own_d1_35 : decode method_2_code 35 = .ok (.lushr, 1) := by decide +kernel
theorem own_d1_36 : decode method_2_code 36 = .ok (.l2i, 1) := by decide +kernel
theorem own_d1_37 : decode method_2_code 37 = .ok (.i2b, 1) := by decide +kernel
theorem own_d1_38 : decode method_2_code 38 = .ok (.bastore, 1) := by decide +kernel
theorem own_d1_39 : decode method_2_code 39 = .ok (.aload_n 0, 1) := by decide +kernel
theorem own_d1_40 : decode method_2_code 40 = .ok (.iload_n 1, 1) := by decide +kernel
theorem own_d1_41 : decode method_2_code 41 = .ok (.iconst 4, 1) := by decide +kernel
theorem own_d1_42 : decode method_2_code 42 = .ok (.iadd, 1) := by decide +kernel
theorem own_d1_43 : decode method_2_code 43 = .ok (.lload_n 2, 1) := by decide +kernel
theorem own_d1_44 : decode method_2_code 44 = .ok (.bipush 32, 2) := by decide +kernel
theorem own_d1_46 : decode method_2_code 46 = .ok (.lushr, 1) := by decide +kernel
theorem own_d1_47 : decode method_2_code 47 = .ok (.l2i, 1) := by decide +kernel
theorem own_d1_48 : decode method_2_code 48 = .ok (.i2b, 1) := by decide +kernel
theorem own_d1_49 : decode method_2_code 49 = .ok (.bastore, 1) := by decide +kernel
theorem own_d1_50 : decode method_2_code 50 = .ok (.aload_n 0, 1) := by decide +kernel
theorem own_d1_51 : decode method_2_code 51 = .ok (.iload_n 1, 1) := by decide +kernel
theorem own_d1_52 : decode method_2_code 52 = .ok (.iconst 5, 1) := by decide +kernel
theorem own_d1_53 : decode method_2_code 53 = .ok (.iadd, 1) := by decide +kernel
theorem own_d1_54 : decode method_2_code 54 = .ok (.lload_n 2, 1) := by decide +kernel
theorem own_d1_55 : decode method_2_code 55 = .ok (.bipush 40, 2) := by decide +kernel
theorem own_d1_57 : decode method_2_code 57 = .ok (.lushr, 1) := by decide +kernel
theorem own_d1_58 : decode method_2_code 58 = .ok (.l2i, 1) := by decide +kernel
theorem own_d1_59 : decode method_2_code 59 = .ok (.i2b, 1) := by decide +kernel
theorem own_d1_60 : decode method_2_code 60 = .ok (.bastore, 1) := by decide +kernel
theorem own_d1_61 : decode method_2_code 61 = .ok (.aload_n 0, 1) := by decide +kernel
theorem own_d1_62 : decode method_2_code 62 = .ok (.iload_n 1, 1) := by decide +kernel
theorem own_d1_63 : decode method_2_code 63 = .ok (.bipush 6, 2) := by decide +kernel
theorem own_d1_65 : decode method_2_code 65 = .ok (.iadd, 1) := by decide +kernel
theorem own_d1_66 : decode method_2_code 66 = .ok (.lload_n 2, 1) := by decide +kernel
theorem own_d1_67 : decode method_2_code 67 = .ok (.bipush 48, 2) := by decide +kernel
theorem own_d1_69 : decode method_2_code 69 = .ok (.lushr, 1) := by decide +kernel
theorem own_d1_70 : decode method_2_code 70 = .ok (.l2i, 1) := by decide +kernel
theorem own_d1_71 : decode method_2_code 71 = .ok (.i2b, 1) := by decide +kernel
theorem own_d1_72 : decode method_2_code 72 = .ok (.bastore, 1) := by decide +kernel
theorem own_d1_73 : decode method_2_code 73 = .ok (.aload_n 0, 1) := by decide +kernel
theorem own_d1_74 : decode method_2_code 74 = .ok (.iload_n 1, 1) := by decide +kernel
theorem own_d1_75 : decode method_2_code 75 = .ok (.bipush 7, 2) := by decide +kernel
theorem own_d1_77 : decode method_2_code 77 = .ok (.iadd, 1) := by decide +kernel
theorem own_d1_78 : decode method_2_code 78 = .ok (.lload_n 2, 1) := by decide +kernel
theorem own_d1_79 : decode method_2_code 79 = .ok (.bipush 56, 2) := by decide +kernel
theorem own_d1_81 : decode method_2_code 81 = .ok (.lushr, 1) := by decide +kernel
theorem own_d1_82 : decode method_2_code 82 = .ok (.l2i, 1) := by decide +kernel
theorem own_d1_83 : decode method_2_code 83 = .ok (.i2b, 1) := by decide +kernel
theorem own_d1_84 : decode method_2_code 84 = .ok (.bastore, 1) := by decide +kernel
theorem own_d1_85 : decode method_2_code 85 = .ok (.return_, 1) := by decide +kernel
theorem own_pn0 : plainName "io/github/keyhold/core/Ed25519FieldFromBytesPinLaw" = true := by first | (simp [plainName, overriddenIn]; done) | decide +kernel
theorem own_rm1_ef (m : MethodId) (a : Addr) (o : Int32) (w : Int64) (k : ClassId) (vs : List Value) (n : Nat) : entryFrame m #[(.ref a), (.int o), (.long w)] 4 = mkF m 0 #[.val (.ref a), .val (.int o), .val (.long w), .second] [] := by first | (simp [entryFrame, mkF, argsToLocals, Value.category]; done) | rfl
def own_rm1_Q (Z : State) (a : Addr) (o : Int32) (w : Int64) (k : ClassId) (vs : List Value) (n : Nat) (h0 : Heap) (n0 : Nat) (v : Option Value) (h : Heap) (L : List Loc) : Prop := v = none ∧ Fr n0 L ∧ Keep h0 h [a] ∧ Arv Z h a k .byte (40 : Int32) (own_put vs n w) (.int (0 : Int32))
set_option maxRecDepth 65536 in
set_option maxHeartbeats 40000000 in
theorem own_rm1 (l : Launch) (Z : State) (a0 : Array Value) (hw : ∀ d ∈ tables_1, d.before a0 Z = true) (ws : List Jvm.Cond) (a : Addr) (o : Int32) (w : Int64) (k : ClassId) (vs : List Value) (n : Nat) (h0 : Heap) (n0 : Nat) (Z0 : n0 ≤ h0.size) (V_a : Arv Z h0 a k .byte (40 : Int32) vs (.int (0 : Int32))) (ho : ¬ o < 0) (hn : o.toNatClampNeg = n) (hbd : n + 8 ≤ 40) (hl : vs.length = 40) (g_a : n0 ≤ a) :
    MetFree l (⟨"io/github/keyhold/core/Ed25519FieldFromBytesPinLaw", "put", "([BIJ)V"⟩ : MethodName) (head1 (Jvm.Cond.code (⟨"io/github/keyhold/core/Ed25519FieldFromBytesPinLaw", "put", "([BIJ)V"⟩ : MethodName) method_2_code 4 none :: ws) ({ frames := 0, cells := 0, slots := 0, locals := 0 } : Room)) (fun as_ U => as_ = #[(.ref a), (.int o), (.long w)] ∧ Z.Warmed39 U.vm ∧ U.heap = h0) (fun _ _ _ _ _ => True) (fun _ U_ o_ V_ => ∃ v_ L_, o_ = .returned v_ ∧ own_rm1_Q Z a o w k vs n h0 n0 v_ V_.heap L_ ∧ FrameEnd U_ o_ V_ L_ ({ frames := 0, cells := 0, slots := 0, locals := 0 } : Room).cells ({ frames := 0, cells := 0, slots := 0, locals := 0 } : Room).slots) := by
  refine MetFree.of_bodySF (plainFor_of_name own_pn0) hisR ?_
  intro p e s m args below meth c s₁ Bd hml0 hP hK
  obtain ⟨rfl, hZ, hh⟩ := hP
  have hx := Bd.exec
  have hby := Bd.bytes
  have hml : c.maxLocals = 4 := hml0
  have hown : s.vm.findClass "io/github/keyhold/core/Ed25519FieldFromBytesPinLaw" = some m.cls := findClass_of_methodNamed Bd.named
  have hnm := (name_of_methodNamed Bd.named Bd.method).1
  have X0 : Stand p l e ({ frames := 0, cells := 0, slots := 0, locals := 0 } : Room) s m #[(.ref a), (.int o), (.long w)] below meth c s₁ [] 0 0 := Stand.of_body Bd
  have e0 : s₁.heap = h0 := by rw [← hh, Bd.state]; rfl
  have N0 := Fr.nil n0
  refine own_begin (own_rm1_ef m a o w k vs n) ?_
  show Ends p.tables e below (s₁.setTop (mkF m 0 #[.val (.ref a), .val (.int o), .val (.long w), .second] [])) _
  have Kr0 : Keep h0 h0 [a] := Keep.refl h0 _
  have f40 : o < (40 : Int32) := by
    have q := nat_of ho
    have f : (40 : Int32).toInt = 40 := by decide
    rw [Int32.lt_iff_toInt_lt]
    omega
  refine s_aloadN (pc' := 1) X0.here hx (hb hby own_d1_0) rfl rfl rfl ?_
  refine s_iloadN (pc' := 2) X0.here hx (hb hby own_d1_1) rfl rfl ?_
  refine s_lloadN (pc' := 3) X0.here hx (hb hby own_d1_2) rfl rfl ?_
  refine s_l2i (pc' := 4) X0.here hx (hb hby own_d1_3) rfl ?_
  refine s_i2b (pc' := 5) X0.here hx (hb hby own_d1_4) rfl ?_
  refine s_putB (pc' := 6) X0 hx hZ e0 V_a ⟨ho, f40⟩ n hn (by first | omega | (simp only [List.length_set]; omega)) (hb hby own_d1_5) rfl fun T1 hp1 X1 e1 W1 Vw1 => ?_
  have V2 : Arv Z hp1 a k .byte (40 : Int32) (vs.set n (.int (own_b0 w))) (.int (0 : Int32)) := Vw1
  have N1 := Fr.snoc X1 N0 g_a
  have Z3 : n0 ≤ hp1.size := Nat.le_trans Z0 (Keep.of_wr W1).1
  have K4 : Keep h0 hp1 [a] := Kr0.wr W1 (Or.inl (List.mem_of_getElem? (i := 0) rfl))
  refine s_aloadN (pc' := 7) X1.here hx (hb hby own_d1_6) rfl rfl rfl ?_
  refine s_iloadN (pc' := 8) X1.here hx (hb hby own_d1_7) rfl rfl ?_
  refine s_iconst (pc' := 9) X1.here hx (v := (1 : Int32)) (hb hby own_d1_8) rfl rfl ?_
  refine s_iadd (pc' := 10) X1.here hx (hb hby own_d1_9) rfl ?_
  refine s_lloadN (pc' := 11) X1.here hx (hb hby own_d1_10) rfl rfl ?_
  refine s_bipush (pc' := 13) X1.here hx (v := (8 : Int32)) (hb hby own_d1_11) rfl rfl ?_
  refine s_lushr (pc' := 14) X1.here hx (hb hby own_d1_13) rfl ?_
  refine s_l2i (pc' := 15) X1.here hx (hb hby own_d1_14) rfl ?_
  refine s_i2b (pc' := 16) X1.here hx (hb hby own_d1_15) rfl ?_
  have ix1 := own_idx (i := (1 : Int32)) (k := 1) ho hn (by decide) (by omega)
  refine s_putB (pc' := 17) X1 hx hZ e1 V2 ⟨ix1.1, ix1.2.1⟩ (n + 1) ix1.2.2 (by first | omega | (simp only [List.length_set]; omega)) (hb hby own_d1_16) rfl fun T5 hp5 X5 e5 W5 Vw5 => ?_
  have V6 : Arv Z hp5 a k .byte (40 : Int32) ((vs.set n (.int (own_b0 w))).set (n + 1) (.int (own_b1 w))) (.int (0 : Int32)) := Vw5
  have N5 := Fr.snoc X5 N1 g_a
  have Z7 : n0 ≤ hp5.size := Nat.le_trans Z3 (Keep.of_wr W5).1
  have K8 : Keep h0 hp5 [a] := K4.wr W5 (Or.inl (List.mem_of_getElem? (i := 0) rfl))
  refine s_aloadN (pc' := 18) X5.here hx (hb hby own_d1_17) rfl rfl rfl ?_
  refine s_iloadN (pc' := 19) X5.here hx (hb hby own_d1_18) rfl rfl ?_
  refine s_iconst (pc' := 20) X5.here hx (v := (2 : Int32)) (hb hby own_d1_19) rfl rfl ?_
  refine s_iadd (pc' := 21) X5.here hx (hb hby own_d1_20) rfl ?_
  refine s_lloadN (pc' := 22) X5.here hx (hb hby own_d1_21) rfl rfl ?_
  refine s_bipush (pc' := 24) X5.here hx (v := (16 : Int32)) (hb hby own_d1_22) rfl rfl ?_
  refine s_lushr (pc' := 25) X5.here hx (hb hby own_d1_24) rfl ?_
  refine s_l2i (pc' := 26) X5.here hx (hb hby own_d1_25) rfl ?_
  refine s_i2b (pc' := 27) X5.here hx (hb hby own_d1_26) rfl ?_
  have ix2 := own_idx (i := (2 : Int32)) (k := 2) ho hn (by decide) (by omega)
  refine s_putB (pc' := 28) X5 hx hZ e5 V6 ⟨ix2.1, ix2.2.1⟩ (n + 2) ix2.2.2 (by first | omega | (simp only [List.length_set]; omega)) (hb hby own_d1_27) rfl fun T9 hp9 X9 e9 W9 Vw9 => ?_
  have V10 : Arv Z hp9 a k .byte (40 : Int32) (((vs.set n (.int (own_b0 w))).set (n + 1) (.int (own_b1 w))).set (n + 2) (.int (own_b2 w))) (.int (0 : Int32)) := Vw9
  have N9 := Fr.snoc X9 N5 g_a
  have Z11 : n0 ≤ hp9.size := Nat.le_trans Z7 (Keep.of_wr W9).1
  have K12 : Keep h0 hp9 [a] := K8.wr W9 (Or.inl (List.mem_of_getElem? (i := 0) rfl))
  refine s_aloadN (pc' := 29) X9.here hx (hb hby own_d1_28) rfl rfl rfl ?_
  refine s_iloadN (pc' := 30) X9.here hx (hb hby own_d1_29) rfl rfl ?_
  refine s_iconst (pc' := 31) X9.here hx (v := (3 : Int32)) (hb hby own_d1_30) rfl rfl ?_
  refine s_iadd (pc' := 32) X9.here hx (hb hby own_d1_31) rfl ?_
  refine s_lloadN (pc' := 33) X9.here hx (hb hby own_d1_32) rfl rfl ?_
  refine s_bipush (pc' := 35) X9.here hx (v := (24 : Int32)) (hb hby own_d1_33) rfl rfl ?_
  refine s_lushr (pc' := 36) X9.here hx (hb hby own_d1_35) rfl ?_
  refine s_l2i (pc' := 37) X9.here hx (hb hby own_d1_36) rfl ?_
  refine s_i2b (pc' := 38) X9.here hx (hb hby own_d1_37) rfl ?_
  have ix3 := own_idx (i := (3 : Int32)) (k := 3) ho hn (by decide) (by omega)
  refine s_putB (pc' := 39) X9 hx hZ e9 V10 ⟨ix3.1, ix3.2.1⟩ (n + 3) ix3.2.2 (by first | omega | (simp only [List.length_set]; omega)) (hb hby own_d1_38) rfl fun T13 hp13 X13 e13 W13 Vw13 => ?_
  have V14 : Arv Z hp13 a k .byte (40 : Int32) ((((vs.set n (.int (own_b0 w))).set (n + 1) (.int (own_b1 w))).set (n + 2) (.int (own_b2 w))).set (n + 3) (.int (own_b3 w))) (.int (0 : Int32)) := Vw13
  have N13 := Fr.snoc X13 N9 g_a
  have Z15 : n0 ≤ hp13.size := Nat.le_trans Z11 (Keep.of_wr W13).1
  have K16 : Keep h0 hp13 [a] := K12.wr W13 (Or.inl (List.mem_of_getElem? (i := 0) rfl))
  refine s_aloadN (pc' := 40) X13.here hx (hb hby own_d1_39) rfl rfl rfl ?_
  refine s_iloadN (pc' := 41) X13.here hx (hb hby own_d1_40) rfl rfl ?_
  refine s_iconst (pc' := 42) X13.here hx (v := (4 : Int32)) (hb hby own_d1_41) rfl rfl ?_
  refine s_iadd (pc' := 43) X13.here hx (hb hby own_d1_42) rfl ?_
  refine s_lloadN (pc' := 44) X13.here hx (hb hby own_d1_43) rfl rfl ?_
  refine s_bipush (pc' := 46) X13.here hx (v := (32 : Int32)) (hb hby own_d1_44) rfl rfl ?_
  refine s_lushr (pc' := 47) X13.here hx (hb hby own_d1_46) rfl ?_
  refine s_l2i (pc' := 48) X13.here hx (hb hby own_d1_47) rfl ?_
  refine s_i2b (pc' := 49) X13.here hx (hb hby own_d1_48) rfl ?_
  have ix4 := own_idx (i := (4 : Int32)) (k := 4) ho hn (by decide) (by omega)
  refine s_putB (pc' := 50) X13 hx hZ e13 V14 ⟨ix4.1, ix4.2.1⟩ (n + 4) ix4.2.2 (by first | omega | (simp only [List.length_set]; omega)) (hb hby own_d1_49) rfl fun T17 hp17 X17 e17 W17 Vw17 => ?_
  have V18 : Arv Z hp17 a k .byte (40 : Int32) (((((vs.set n (.int (own_b0 w))).set (n + 1) (.int (own_b1 w))).set (n + 2) (.int (own_b2 w))).set (n + 3) (.int (own_b3 w))).set (n + 4) (.int (own_b4 w))) (.int (0 : Int32)) := Vw17
  have N17 := Fr.snoc X17 N13 g_a
  have Z19 : n0 ≤ hp17.size := Nat.le_trans Z15 (Keep.of_wr W17).1
  have K20 : Keep h0 hp17 [a] := K16.wr W17 (Or.inl (List.mem_of_getElem? (i := 0) rfl))
  refine s_aloadN (pc' := 51) X17.here hx (hb hby own_d1_50) rfl rfl rfl ?_
  refine s_iloadN (pc' := 52) X17.here hx (hb hby own_d1_51) rfl rfl ?_
  refine s_iconst (pc' := 53) X17.here hx (v := (5 : Int32)) (hb hby own_d1_52) rfl rfl ?_
  refine s_iadd (pc' := 54) X17.here hx (hb hby own_d1_53) rfl ?_
  refine s_lloadN (pc' := 55) X17.here hx (hb hby own_d1_54) rfl rfl ?_
  refine s_bipush (pc' := 57) X17.here hx (v := (40 : Int32)) (hb hby own_d1_55) rfl rfl ?_
  refine s_lushr (pc' := 58) X17.here hx (hb hby own_d1_57) rfl ?_
  refine s_l2i (pc' := 59) X17.here hx (hb hby own_d1_58) rfl ?_
  refine s_i2b (pc' := 60) X17.here hx (hb hby own_d1_59) rfl ?_
  have ix5 := own_idx (i := (5 : Int32)) (k := 5) ho hn (by decide) (by omega)
  refine s_putB (pc' := 61) X17 hx hZ e17 V18 ⟨ix5.1, ix5.2.1⟩ (n + 5) ix5.2.2 (by first | omega | (simp only [List.length_set]; omega)) (hb hby own_d1_60) rfl fun T21 hp21 X21 e21 W21 Vw21 => ?_
  have V22 : Arv Z hp21 a k .byte (40 : Int32) ((((((vs.set n (.int (own_b0 w))).set (n + 1) (.int (own_b1 w))).set (n + 2) (.int (own_b2 w))).set (n + 3) (.int (own_b3 w))).set (n + 4) (.int (own_b4 w))).set (n + 5) (.int (own_b5 w))) (.int (0 : Int32)) := Vw21
  have N21 := Fr.snoc X21 N17 g_a
  have Z23 : n0 ≤ hp21.size := Nat.le_trans Z19 (Keep.of_wr W21).1
  have K24 : Keep h0 hp21 [a] := K20.wr W21 (Or.inl (List.mem_of_getElem? (i := 0) rfl))
  refine s_aloadN (pc' := 62) X21.here hx (hb hby own_d1_61) rfl rfl rfl ?_
  refine s_iloadN (pc' := 63) X21.here hx (hb hby own_d1_62) rfl rfl ?_
  refine s_bipush (pc' := 65) X21.here hx (v := (6 : Int32)) (hb hby own_d1_63) rfl rfl ?_
  refine s_iadd (pc' := 66) X21.here hx (hb hby own_d1_65) rfl ?_
  refine s_lloadN (pc' := 67) X21.here hx (hb hby own_d1_66) rfl rfl ?_
  refine s_bipush (pc' := 69) X21.here hx (v := (48 : Int32)) (hb hby own_d1_67) rfl rfl ?_
  refine s_lushr (pc' := 70) X21.here hx (hb hby own_d1_69) rfl ?_
  refine s_l2i (pc' := 71) X21.here hx (hb hby own_d1_70) rfl ?_
  refine s_i2b (pc' := 72) X21.here hx (hb hby own_d1_71) rfl ?_
  have ix6 := own_idx (i := (6 : Int32)) (k := 6) ho hn (by decide) (by omega)
  refine s_putB (pc' := 73) X21 hx hZ e21 V22 ⟨ix6.1, ix6.2.1⟩ (n + 6) ix6.2.2 (by first | omega | (simp only [List.length_set]; omega)) (hb hby own_d1_72) rfl fun T25 hp25 X25 e25 W25 Vw25 => ?_
  have V26 : Arv Z hp25 a k .byte (40 : Int32) (((((((vs.set n (.int (own_b0 w))).set (n + 1) (.int (own_b1 w))).set (n + 2) (.int (own_b2 w))).set (n + 3) (.int (own_b3 w))).set (n + 4) (.int (own_b4 w))).set (n + 5) (.int (own_b5 w))).set (n + 6) (.int (own_b6 w))) (.int (0 : Int32)) := Vw25
  have N25 := Fr.snoc X25 N21 g_a
  have Z27 : n0 ≤ hp25.size := Nat.le_trans Z23 (Keep.of_wr W25).1
  have K28 : Keep h0 hp25 [a] := K24.wr W25 (Or.inl (List.mem_of_getElem? (i := 0) rfl))
  refine s_aloadN (pc' := 74) X25.here hx (hb hby own_d1_73) rfl rfl rfl ?_
  refine s_iloadN (pc' := 75) X25.here hx (hb hby own_d1_74) rfl rfl ?_
  refine s_bipush (pc' := 77) X25.here hx (v := (7 : Int32)) (hb hby own_d1_75) rfl rfl ?_
  refine s_iadd (pc' := 78) X25.here hx (hb hby own_d1_77) rfl ?_
  refine s_lloadN (pc' := 79) X25.here hx (hb hby own_d1_78) rfl rfl ?_
  refine s_bipush (pc' := 81) X25.here hx (v := (56 : Int32)) (hb hby own_d1_79) rfl rfl ?_
  refine s_lushr (pc' := 82) X25.here hx (hb hby own_d1_81) rfl ?_
  refine s_l2i (pc' := 83) X25.here hx (hb hby own_d1_82) rfl ?_
  refine s_i2b (pc' := 84) X25.here hx (hb hby own_d1_83) rfl ?_
  have ix7 := own_idx (i := (7 : Int32)) (k := 7) ho hn (by decide) (by omega)
  refine s_putB (pc' := 85) X25 hx hZ e25 V26 ⟨ix7.1, ix7.2.1⟩ (n + 7) ix7.2.2 (by first | omega | (simp only [List.length_set]; omega)) (hb hby own_d1_84) rfl fun T29 hp29 X29 e29 W29 Vw29 => ?_
  have V30 : Arv Z hp29 a k .byte (40 : Int32) ((((((((vs.set n (.int (own_b0 w))).set (n + 1) (.int (own_b1 w))).set (n + 2) (.int (own_b2 w))).set (n + 3) (.int (own_b3 w))).set (n + 4) (.int (own_b4 w))).set (n + 5) (.int (own_b5 w))).set (n + 6) (.int (own_b6 w))).set (n + 7) (.int (own_b7 w))) (.int (0 : Int32)) := Vw29
  have N29 := Fr.snoc X29 N25 g_a
  have Z31 : n0 ≤ hp29.size := Nat.le_trans Z27 (Keep.of_wr W29).1
  have K32 : Keep h0 hp29 [a] := K28.wr W29 (Or.inl (List.mem_of_getElem? (i := 0) rfl))
  obtain ⟨fs, hr, hrun, hended, hW, hsame⟩ := X29.leave (v := none) (fun _ => rfl)
  refine ⟨_, _, X29.returnOut hx Bd.returns (hb hby own_d1_85) hr, hrun, hended, _, _, rfl, ?_, ⟨_, rfl⟩, hW, hsame.mono (by decide) (by decide)⟩
  show own_rm1_Q Z a o w k vs n h0 n0 _ T29.heap _
  rw [e29]
  exact ⟨rfl, N29, K32, V30⟩
theorem own_limb0 (r v : Int64) (hr : 0 ≤ r.toInt ∧ r.toInt < 1) (hv : 0 ≤ v.toInt ∧ v.toInt < 256) : (r ||| ((v <<< ((0 : Int32) &&& 0x3f).toInt64) &&& (2251799813685247 : Int64))).toInt = r.toInt + v.toInt * 1 % 2251799813685248 ∧ (0 ≤ (r ||| ((v <<< ((0 : Int32) &&& 0x3f).toInt64) &&& (2251799813685247 : Int64))).toInt ∧ (r ||| ((v <<< ((0 : Int32) &&& 0x3f).toInt64) &&& (2251799813685247 : Int64))).toInt < 256) := by
  have c1 := c_lshl v 0 0 (by decide)
  have r1 := rng64 (v <<< ((0 : Int32) &&& 0x3f).toInt64)
  have c2 := c_maskL (v <<< ((0 : Int32) &&& 0x3f).toInt64) 2251799813685247 51 (by decide) (by decide)
  have c3 := c_orL' r ((v <<< ((0 : Int32) &&& 0x3f).toInt64) &&& (2251799813685247 : Int64)) 0 (by decide) 1 (by decide) (by omega) (by omega) (by omega)
  have r2 := rng64 (r ||| ((v <<< ((0 : Int32) &&& 0x3f).toInt64) &&& (2251799813685247 : Int64)))
  omega
theorem own_limb2 (r v : Int64) (hr : 0 ≤ r.toInt ∧ r.toInt < 4) (hv : 0 ≤ v.toInt ∧ v.toInt < 256) : (r ||| ((v <<< ((2 : Int32) &&& 0x3f).toInt64) &&& (2251799813685247 : Int64))).toInt = r.toInt + v.toInt * 4 % 2251799813685248 ∧ (0 ≤ (r ||| ((v <<< ((2 : Int32) &&& 0x3f).toInt64) &&& (2251799813685247 : Int64))).toInt ∧ (r ||| ((v <<< ((2 : Int32) &&& 0x3f).toInt64) &&& (2251799813685247 : Int64))).toInt < 1024) := by
  have c1 := c_lshl v 2 2 (by decide)
  have r1 := rng64 (v <<< ((2 : Int32) &&& 0x3f).toInt64)
  have c2 := c_maskL (v <<< ((2 : Int32) &&& 0x3f).toInt64) 2251799813685247 51 (by decide) (by decide)
  have c3 := c_orL' r ((v <<< ((2 : Int32) &&& 0x3f).toInt64) &&& (2251799813685247 : Int64)) 2 (by decide) 4 (by decide) (by omega) (by omega) (by omega)
  have r2 := rng64 (r ||| ((v <<< ((2 : Int32) &&& 0x3f).toInt64) &&& (2251799813685247 : Int64)))
  omega
theorem own_limb4 (r v : Int64) (hr : 0 ≤ r.toInt ∧ r.toInt < 16) (hv : 0 ≤ v.toInt ∧ v.toInt < 256) : (r ||| ((v <<< ((4 : Int32) &&& 0x3f).toInt64) &&& (2251799813685247 : Int64))).toInt = r.toInt + v.toInt * 16 % 2251799813685248 ∧ (0 ≤ (r ||| ((v <<< ((4 : Int32) &&& 0x3f).toInt64) &&& (2251799813685247 : Int64))).toInt ∧ (r ||| ((v <<< ((4 : Int32) &&& 0x3f).toInt64) &&& (2251799813685247 : Int64))).toInt < 4096) := by
  have c1 := c_lshl v 4 4 (by decide)
  have r1 := rng64 (v <<< ((4 : Int32) &&& 0x3f).toInt64)
  have c2 := c_maskL (v <<< ((4 : Int32) &&& 0x3f).toInt64) 2251799813685247 51 (by decide) (by decide)
  have c3 := c_orL' r ((v <<< ((4 : Int32) &&& 0x3f).toInt64) &&& (2251799813685247 : Int64)) 4 (by decide) 16 (by decide) (by omega) (by omega) (by omega)
  have r2 := rng64 (r ||| ((v <<< ((4 : Int32) &&& 0x3f).toInt64) &&& (2251799813685247 : Int64)))
  omega
theorem own_limb5 (r v : Int64) (hr : 0 ≤ r.toInt ∧ r.toInt < 32) (hv : 0 ≤ v.toInt ∧ v.toInt < 256) : (r ||| ((v <<< ((5 : Int32) &&& 0x3f).toInt64) &&& (2251799813685247 : Int64))).toInt = r.toInt + v.toInt * 32 % 2251799813685248 ∧ (0 ≤ (r ||| ((v <<< ((5 : Int32) &&& 0x3f).toInt64) &&& (2251799813685247 : Int64))).toInt ∧ (r ||| ((v <<< ((5 : Int32) &&& 0x3f).toInt64) &&& (2251799813685247 : Int64))).toInt < 8192) := by
  have c1 := c_lshl v 5 5 (by decide)
  have r1 := rng64 (v <<< ((5 : Int32) &&& 0x3f).toInt64)
  have c2 := c_maskL (v <<< ((5 : Int32) &&& 0x3f).toInt64) 2251799813685247 51 (by decide) (by decide)
  have c3 := c_orL' r ((v <<< ((5 : Int32) &&& 0x3f).toInt64) &&& (2251799813685247 : Int64)) 5 (by decide) 32 (by decide) (by omega) (by omega) (by omega)
  have r2 := rng64 (r ||| ((v <<< ((5 : Int32) &&& 0x3f).toInt64) &&& (2251799813685247 : Int64)))
  omega
theorem own_limb7 (r v : Int64) (hr : 0 ≤ r.toInt ∧ r.toInt < 128) (hv : 0 ≤ v.toInt ∧ v.toInt < 256) : (r ||| ((v <<< ((7 : Int32) &&& 0x3f).toInt64) &&& (2251799813685247 : Int64))).toInt = r.toInt + v.toInt * 128 % 2251799813685248 ∧ (0 ≤ (r ||| ((v <<< ((7 : Int32) &&& 0x3f).toInt64) &&& (2251799813685247 : Int64))).toInt ∧ (r ||| ((v <<< ((7 : Int32) &&& 0x3f).toInt64) &&& (2251799813685247 : Int64))).toInt < 32768) := by
  have c1 := c_lshl v 7 7 (by decide)
  have r1 := rng64 (v <<< ((7 : Int32) &&& 0x3f).toInt64)
  have c2 := c_maskL (v <<< ((7 : Int32) &&& 0x3f).toInt64) 2251799813685247 51 (by decide) (by decide)
  have c3 := c_orL' r ((v <<< ((7 : Int32) &&& 0x3f).toInt64) &&& (2251799813685247 : Int64)) 7 (by decide) 128 (by decide) (by omega) (by omega) (by omega)
  have r2 := rng64 (r ||| ((v <<< ((7 : Int32) &&& 0x3f).toInt64) &&& (2251799813685247 : Int64)))
  omega
theorem own_limb8 (r v : Int64) (hr : 0 ≤ r.toInt ∧ r.toInt < 256) (hv : 0 ≤ v.toInt ∧ v.toInt < 256) : (r ||| ((v <<< ((8 : Int32) &&& 0x3f).toInt64) &&& (2251799813685247 : Int64))).toInt = r.toInt + v.toInt * 256 % 2251799813685248 ∧ (0 ≤ (r ||| ((v <<< ((8 : Int32) &&& 0x3f).toInt64) &&& (2251799813685247 : Int64))).toInt ∧ (r ||| ((v <<< ((8 : Int32) &&& 0x3f).toInt64) &&& (2251799813685247 : Int64))).toInt < 65536) := by
  have c1 := c_lshl v 8 8 (by decide)
  have r1 := rng64 (v <<< ((8 : Int32) &&& 0x3f).toInt64)
  have c2 := c_maskL (v <<< ((8 : Int32) &&& 0x3f).toInt64) 2251799813685247 51 (by decide) (by decide)
  have c3 := c_orL' r ((v <<< ((8 : Int32) &&& 0x3f).toInt64) &&& (2251799813685247 : Int64)) 8 (by decide) 256 (by decide) (by omega) (by omega) (by omega)
  have r2 := rng64 (r ||| ((v <<< ((8 : Int32) &&& 0x3f).toInt64) &&& (2251799813685247 : Int64)))
  omega
theorem own_limb10 (r v : Int64) (hr : 0 ≤ r.toInt ∧ r.toInt < 1024) (hv : 0 ≤ v.toInt ∧ v.toInt < 256) : (r ||| ((v <<< ((10 : Int32) &&& 0x3f).toInt64) &&& (2251799813685247 : Int64))).toInt = r.toInt + v.toInt * 1024 % 2251799813685248 ∧ (0 ≤ (r ||| ((v <<< ((10 : Int32) &&& 0x3f).toInt64) &&& (2251799813685247 : Int64))).toInt ∧ (r ||| ((v <<< ((10 : Int32) &&& 0x3f).toInt64) &&& (2251799813685247 : Int64))).toInt < 262144) := by
  have c1 := c_lshl v 10 10 (by decide)
  have r1 := rng64 (v <<< ((10 : Int32) &&& 0x3f).toInt64)
  have c2 := c_maskL (v <<< ((10 : Int32) &&& 0x3f).toInt64) 2251799813685247 51 (by decide) (by decide)
  have c3 := c_orL' r ((v <<< ((10 : Int32) &&& 0x3f).toInt64) &&& (2251799813685247 : Int64)) 10 (by decide) 1024 (by decide) (by omega) (by omega) (by omega)
  have r2 := rng64 (r ||| ((v <<< ((10 : Int32) &&& 0x3f).toInt64) &&& (2251799813685247 : Int64)))
  omega
theorem own_limb12 (r v : Int64) (hr : 0 ≤ r.toInt ∧ r.toInt < 4096) (hv : 0 ≤ v.toInt ∧ v.toInt < 256) : (r ||| ((v <<< ((12 : Int32) &&& 0x3f).toInt64) &&& (2251799813685247 : Int64))).toInt = r.toInt + v.toInt * 4096 % 2251799813685248 ∧ (0 ≤ (r ||| ((v <<< ((12 : Int32) &&& 0x3f).toInt64) &&& (2251799813685247 : Int64))).toInt ∧ (r ||| ((v <<< ((12 : Int32) &&& 0x3f).toInt64) &&& (2251799813685247 : Int64))).toInt < 1048576) := by
  have c1 := c_lshl v 12 12 (by decide)
  have r1 := rng64 (v <<< ((12 : Int32) &&& 0x3f).toInt64)
  have c2 := c_maskL (v <<< ((12 : Int32) &&& 0x3f).toInt64) 2251799813685247 51 (by decide) (by decide)
  have c3 := c_orL' r ((v <<< ((12 : Int32) &&& 0x3f).toInt64) &&& (2251799813685247 : Int64)) 12 (by decide) 4096 (by decide) (by omega) (by omega) (by omega)
  have r2 := rng64 (r ||| ((v <<< ((12 : Int32) &&& 0x3f).toInt64) &&& (2251799813685247 : Int64)))
  omega
theorem own_limb13 (r v : Int64) (hr : 0 ≤ r.toInt ∧ r.toInt < 8192) (hv : 0 ≤ v.toInt ∧ v.toInt < 256) : (r ||| ((v <<< ((13 : Int32) &&& 0x3f).toInt64) &&& (2251799813685247 : Int64))).toInt = r.toInt + v.toInt * 8192 % 2251799813685248 ∧ (0 ≤ (r ||| ((v <<< ((13 : Int32) &&& 0x3f).toInt64) &&& (2251799813685247 : Int64))).toInt ∧ (r ||| ((v <<< ((13 : Int32) &&& 0x3f).toInt64) &&& (2251799813685247 : Int64))).toInt < 2097152) := by
  have c1 := c_lshl v 13 13 (by decide)
  have r1 := rng64 (v <<< ((13 : Int32) &&& 0x3f).toInt64)
  have c2 := c_maskL (v <<< ((13 : Int32) &&& 0x3f).toInt64) 2251799813685247 51 (by decide) (by decide)
  have c3 := c_orL' r ((v <<< ((13 : Int32) &&& 0x3f).toInt64) &&& (2251799813685247 : Int64)) 13 (by decide) 8192 (by decide) (by omega) (by omega) (by omega)
  have r2 := rng64 (r ||| ((v <<< ((13 : Int32) &&& 0x3f).toInt64) &&& (2251799813685247 : Int64)))
  omega
theorem own_limb15 (r v : Int64) (hr : 0 ≤ r.toInt ∧ r.toInt < 32768) (hv : 0 ≤ v.toInt ∧ v.toInt < 256) : (r ||| ((v <<< ((15 : Int32) &&& 0x3f).toInt64) &&& (2251799813685247 : Int64))).toInt = r.toInt + v.toInt * 32768 % 2251799813685248 ∧ (0 ≤ (r ||| ((v <<< ((15 : Int32) &&& 0x3f).toInt64) &&& (2251799813685247 : Int64))).toInt ∧ (r ||| ((v <<< ((15 : Int32) &&& 0x3f).toInt64) &&& (2251799813685247 : Int64))).toInt < 8388608) := by
  have c1 := c_lshl v 15 15 (by decide)
  have r1 := rng64 (v <<< ((15 : Int32) &&& 0x3f).toInt64)
  have c2 := c_maskL (v <<< ((15 : Int32) &&& 0x3f).toInt64) 2251799813685247 51 (by decide) (by decide)
  have c3 := c_orL' r ((v <<< ((15 : Int32) &&& 0x3f).toInt64) &&& (2251799813685247 : Int64)) 15 (by decide) 32768 (by decide) (by omega) (by omega) (by omega)
  have r2 := rng64 (r ||| ((v <<< ((15 : Int32) &&& 0x3f).toInt64) &&& (2251799813685247 : Int64)))
  omega
theorem own_limb16 (r v : Int64) (hr : 0 ≤ r.toInt ∧ r.toInt < 65536) (hv : 0 ≤ v.toInt ∧ v.toInt < 256) : (r ||| ((v <<< ((16 : Int32) &&& 0x3f).toInt64) &&& (2251799813685247 : Int64))).toInt = r.toInt + v.toInt * 65536 % 2251799813685248 ∧ (0 ≤ (r ||| ((v <<< ((16 : Int32) &&& 0x3f).toInt64) &&& (2251799813685247 : Int64))).toInt ∧ (r ||| ((v <<< ((16 : Int32) &&& 0x3f).toInt64) &&& (2251799813685247 : Int64))).toInt < 16777216) := by
  have c1 := c_lshl v 16 16 (by decide)
  have r1 := rng64 (v <<< ((16 : Int32) &&& 0x3f).toInt64)
  have c2 := c_maskL (v <<< ((16 : Int32) &&& 0x3f).toInt64) 2251799813685247 51 (by decide) (by decide)
  have c3 := c_orL' r ((v <<< ((16 : Int32) &&& 0x3f).toInt64) &&& (2251799813685247 : Int64)) 16 (by decide) 65536 (by decide) (by omega) (by omega) (by omega)
  have r2 := rng64 (r ||| ((v <<< ((16 : Int32) &&& 0x3f).toInt64) &&& (2251799813685247 : Int64)))
  omega
theorem own_limb18 (r v : Int64) (hr : 0 ≤ r.toInt ∧ r.toInt < 262144) (hv : 0 ≤ v.toInt ∧ v.toInt < 256) : (r ||| ((v <<< ((18 : Int32) &&& 0x3f).toInt64) &&& (2251799813685247 : Int64))).toInt = r.toInt + v.toInt * 262144 % 2251799813685248 ∧ (0 ≤ (r ||| ((v <<< ((18 : Int32) &&& 0x3f).toInt64) &&& (2251799813685247 : Int64))).toInt ∧ (r ||| ((v <<< ((18 : Int32) &&& 0x3f).toInt64) &&& (2251799813685247 : Int64))).toInt < 67108864) := by
  have c1 := c_lshl v 18 18 (by decide)
  have r1 := rng64 (v <<< ((18 : Int32) &&& 0x3f).toInt64)
  have c2 := c_maskL (v <<< ((18 : Int32) &&& 0x3f).toInt64) 2251799813685247 51 (by decide) (by decide)
  have c3 := c_orL' r ((v <<< ((18 : Int32) &&& 0x3f).toInt64) &&& (2251799813685247 : Int64)) 18 (by decide) 262144 (by decide) (by omega) (by omega) (by omega)
  have r2 := rng64 (r ||| ((v <<< ((18 : Int32) &&& 0x3f).toInt64) &&& (2251799813685247 : Int64)))
  omega
theorem own_limb20 (r v : Int64) (hr : 0 ≤ r.toInt ∧ r.toInt < 1048576) (hv : 0 ≤ v.toInt ∧ v.toInt < 256) : (r ||| ((v <<< ((20 : Int32) &&& 0x3f).toInt64) &&& (2251799813685247 : Int64))).toInt = r.toInt + v.toInt * 1048576 % 2251799813685248 ∧ (0 ≤ (r ||| ((v <<< ((20 : Int32) &&& 0x3f).toInt64) &&& (2251799813685247 : Int64))).toInt ∧ (r ||| ((v <<< ((20 : Int32) &&& 0x3f).toInt64) &&& (2251799813685247 : Int64))).toInt < 268435456) := by
  have c1 := c_lshl v 20 20 (by decide)
  have r1 := rng64 (v <<< ((20 : Int32) &&& 0x3f).toInt64)
  have c2 := c_maskL (v <<< ((20 : Int32) &&& 0x3f).toInt64) 2251799813685247 51 (by decide) (by decide)
  have c3 := c_orL' r ((v <<< ((20 : Int32) &&& 0x3f).toInt64) &&& (2251799813685247 : Int64)) 20 (by decide) 1048576 (by decide) (by omega) (by omega) (by omega)
  have r2 := rng64 (r ||| ((v <<< ((20 : Int32) &&& 0x3f).toInt64) &&& (2251799813685247 : Int64)))
  omega
theorem own_limb21 (r v : Int64) (hr : 0 ≤ r.toInt ∧ r.toInt < 2097152) (hv : 0 ≤ v.toInt ∧ v.toInt < 256) : (r ||| ((v <<< ((21 : Int32) &&& 0x3f).toInt64) &&& (2251799813685247 : Int64))).toInt = r.toInt + v.toInt * 2097152 % 2251799813685248 ∧ (0 ≤ (r ||| ((v <<< ((21 : Int32) &&& 0x3f).toInt64) &&& (2251799813685247 : Int64))).toInt ∧ (r ||| ((v <<< ((21 : Int32) &&& 0x3f).toInt64) &&& (2251799813685247 : Int64))).toInt < 536870912) := by
  have c1 := c_lshl v 21 21 (by decide)
  have r1 := rng64 (v <<< ((21 : Int32) &&& 0x3f).toInt64)
  have c2 := c_maskL (v <<< ((21 : Int32) &&& 0x3f).toInt64) 2251799813685247 51 (by decide) (by decide)
  have c3 := c_orL' r ((v <<< ((21 : Int32) &&& 0x3f).toInt64) &&& (2251799813685247 : Int64)) 21 (by decide) 2097152 (by decide) (by omega) (by omega) (by omega)
  have r2 := rng64 (r ||| ((v <<< ((21 : Int32) &&& 0x3f).toInt64) &&& (2251799813685247 : Int64)))
  omega
theorem own_limb23 (r v : Int64) (hr : 0 ≤ r.toInt ∧ r.toInt < 8388608) (hv : 0 ≤ v.toInt ∧ v.toInt < 256) : (r ||| ((v <<< ((23 : Int32) &&& 0x3f).toInt64) &&& (2251799813685247 : Int64))).toInt = r.toInt + v.toInt * 8388608 % 2251799813685248 ∧ (0 ≤ (r ||| ((v <<< ((23 : Int32) &&& 0x3f).toInt64) &&& (2251799813685247 : Int64))).toInt ∧ (r ||| ((v <<< ((23 : Int32) &&& 0x3f).toInt64) &&& (2251799813685247 : Int64))).toInt < 2147483648) := by
  have c1 := c_lshl v 23 23 (by decide)
  have r1 := rng64 (v <<< ((23 : Int32) &&& 0x3f).toInt64)
  have c2 := c_maskL (v <<< ((23 : Int32) &&& 0x3f).toInt64) 2251799813685247 51 (by decide) (by decide)
  have c3 := c_orL' r ((v <<< ((23 : Int32) &&& 0x3f).toInt64) &&& (2251799813685247 : Int64)) 23 (by decide) 8388608 (by decide) (by omega) (by omega) (by omega)
  have r2 := rng64 (r ||| ((v <<< ((23 : Int32) &&& 0x3f).toInt64) &&& (2251799813685247 : Int64)))
  omega
theorem own_limb24 (r v : Int64) (hr : 0 ≤ r.toInt ∧ r.toInt < 16777216) (hv : 0 ≤ v.toInt ∧ v.toInt < 256) : (r ||| ((v <<< ((24 : Int32) &&& 0x3f).toInt64) &&& (2251799813685247 : Int64))).toInt = r.toInt + v.toInt * 16777216 % 2251799813685248 ∧ (0 ≤ (r ||| ((v <<< ((24 : Int32) &&& 0x3f).toInt64) &&& (2251799813685247 : Int64))).toInt ∧ (r ||| ((v <<< ((24 : Int32) &&& 0x3f).toInt64) &&& (2251799813685247 : Int64))).toInt < 4294967296) := by
  have c1 := c_lshl v 24 24 (by decide)
  have r1 := rng64 (v <<< ((24 : Int32) &&& 0x3f).toInt64)
  have c2 := c_maskL (v <<< ((24 : Int32) &&& 0x3f).toInt64) 2251799813685247 51 (by decide) (by decide)
  have c3 := c_orL' r ((v <<< ((24 : Int32) &&& 0x3f).toInt64) &&& (2251799813685247 : Int64)) 24 (by decide) 16777216 (by decide) (by omega) (by omega) (by omega)
  have r2 := rng64 (r ||| ((v <<< ((24 : Int32) &&& 0x3f).toInt64) &&& (2251799813685247 : Int64)))
  omega
theorem own_limb26 (r v : Int64) (hr : 0 ≤ r.toInt ∧ r.toInt < 67108864) (hv : 0 ≤ v.toInt ∧ v.toInt < 256) : (r ||| ((v <<< ((26 : Int32) &&& 0x3f).toInt64) &&& (2251799813685247 : Int64))).toInt = r.toInt + v.toInt * 67108864 % 2251799813685248 ∧ (0 ≤ (r ||| ((v <<< ((26 : Int32) &&& 0x3f).toInt64) &&& (2251799813685247 : Int64))).toInt ∧ (r ||| ((v <<< ((26 : Int32) &&& 0x3f).toInt64) &&& (2251799813685247 : Int64))).toInt < 17179869184) := by
  have c1 := c_lshl v 26 26 (by decide)
  have r1 := rng64 (v <<< ((26 : Int32) &&& 0x3f).toInt64)
  have c2 := c_maskL (v <<< ((26 : Int32) &&& 0x3f).toInt64) 2251799813685247 51 (by decide) (by decide)
  have c3 := c_orL' r ((v <<< ((26 : Int32) &&& 0x3f).toInt64) &&& (2251799813685247 : Int64)) 26 (by decide) 67108864 (by decide) (by omega) (by omega) (by omega)
  have r2 := rng64 (r ||| ((v <<< ((26 : Int32) &&& 0x3f).toInt64) &&& (2251799813685247 : Int64)))
  omega
theorem own_limb28 (r v : Int64) (hr : 0 ≤ r.toInt ∧ r.toInt < 268435456) (hv : 0 ≤ v.toInt ∧ v.toInt < 256) : (r ||| ((v <<< ((28 : Int32) &&& 0x3f).toInt64) &&& (2251799813685247 : Int64))).toInt = r.toInt + v.toInt * 268435456 % 2251799813685248 ∧ (0 ≤ (r ||| ((v <<< ((28 : Int32) &&& 0x3f).toInt64) &&& (2251799813685247 : Int64))).toInt ∧ (r ||| ((v <<< ((28 : Int32) &&& 0x3f).toInt64) &&& (2251799813685247 : Int64))).toInt < 68719476736) := by
  have c1 := c_lshl v 28 28 (by decide)
  have r1 := rng64 (v <<< ((28 : Int32) &&& 0x3f).toInt64)
  have c2 := c_maskL (v <<< ((28 : Int32) &&& 0x3f).toInt64) 2251799813685247 51 (by decide) (by decide)
  have c3 := c_orL' r ((v <<< ((28 : Int32) &&& 0x3f).toInt64) &&& (2251799813685247 : Int64)) 28 (by decide) 268435456 (by decide) (by omega) (by omega) (by omega)
  have r2 := rng64 (r ||| ((v <<< ((28 : Int32) &&& 0x3f).toInt64) &&& (2251799813685247 : Int64)))
  omega
theorem own_limb29 (r v : Int64) (hr : 0 ≤ r.toInt ∧ r.toInt < 536870912) (hv : 0 ≤ v.toInt ∧ v.toInt < 256) : (r ||| ((v <<< ((29 : Int32) &&& 0x3f).toInt64) &&& (2251799813685247 : Int64))).toInt = r.toInt + v.toInt * 536870912 % 2251799813685248 ∧ (0 ≤ (r ||| ((v <<< ((29 : Int32) &&& 0x3f).toInt64) &&& (2251799813685247 : Int64))).toInt ∧ (r ||| ((v <<< ((29 : Int32) &&& 0x3f).toInt64) &&& (2251799813685247 : Int64))).toInt < 137438953472) := by
  have c1 := c_lshl v 29 29 (by decide)
  have r1 := rng64 (v <<< ((29 : Int32) &&& 0x3f).toInt64)
  have c2 := c_maskL (v <<< ((29 : Int32) &&& 0x3f).toInt64) 2251799813685247 51 (by decide) (by decide)
  have c3 := c_orL' r ((v <<< ((29 : Int32) &&& 0x3f).toInt64) &&& (2251799813685247 : Int64)) 29 (by decide) 536870912 (by decide) (by omega) (by omega) (by omega)
  have r2 := rng64 (r ||| ((v <<< ((29 : Int32) &&& 0x3f).toInt64) &&& (2251799813685247 : Int64)))
  omega
theorem own_limb31 (r v : Int64) (hr : 0 ≤ r.toInt ∧ r.toInt < 2147483648) (hv : 0 ≤ v.toInt ∧ v.toInt < 256) : (r ||| ((v <<< ((31 : Int32) &&& 0x3f).toInt64) &&& (2251799813685247 : Int64))).toInt = r.toInt + v.toInt * 2147483648 % 2251799813685248 ∧ (0 ≤ (r ||| ((v <<< ((31 : Int32) &&& 0x3f).toInt64) &&& (2251799813685247 : Int64))).toInt ∧ (r ||| ((v <<< ((31 : Int32) &&& 0x3f).toInt64) &&& (2251799813685247 : Int64))).toInt < 549755813888) := by
  have c1 := c_lshl v 31 31 (by decide)
  have r1 := rng64 (v <<< ((31 : Int32) &&& 0x3f).toInt64)
  have c2 := c_maskL (v <<< ((31 : Int32) &&& 0x3f).toInt64) 2251799813685247 51 (by decide) (by decide)
  have c3 := c_orL' r ((v <<< ((31 : Int32) &&& 0x3f).toInt64) &&& (2251799813685247 : Int64)) 31 (by decide) 2147483648 (by decide) (by omega) (by omega) (by omega)
  have r2 := rng64 (r ||| ((v <<< ((31 : Int32) &&& 0x3f).toInt64) &&& (2251799813685247 : Int64)))
  omega
theorem own_limb32 (r v : Int64) (hr : 0 ≤ r.toInt ∧ r.toInt < 4294967296) (hv : 0 ≤ v.toInt ∧ v.toInt < 256) : (r ||| ((v <<< ((32 : Int32) &&& 0x3f).toInt64) &&& (2251799813685247 : Int64))).toInt = r.toInt + v.toInt * 4294967296 % 2251799813685248 ∧ (0 ≤ (r ||| ((v <<< ((32 : Int32) &&& 0x3f).toInt64) &&& (2251799813685247 : Int64))).toInt ∧ (r ||| ((v <<< ((32 : Int32) &&& 0x3f).toInt64) &&& (2251799813685247 : Int64))).toInt < 1099511627776) := by
  have c1 := c_lshl v 32 32 (by decide)
  have r1 := rng64 (v <<< ((32 : Int32) &&& 0x3f).toInt64)
  have c2 := c_maskL (v <<< ((32 : Int32) &&& 0x3f).toInt64) 2251799813685247 51 (by decide) (by decide)
  have c3 := c_orL' r ((v <<< ((32 : Int32) &&& 0x3f).toInt64) &&& (2251799813685247 : Int64)) 32 (by decide) 4294967296 (by decide) (by omega) (by omega) (by omega)
  have r2 := rng64 (r ||| ((v <<< ((32 : Int32) &&& 0x3f).toInt64) &&& (2251799813685247 : Int64)))
  omega
theorem own_limb34 (r v : Int64) (hr : 0 ≤ r.toInt ∧ r.toInt < 17179869184) (hv : 0 ≤ v.toInt ∧ v.toInt < 256) : (r ||| ((v <<< ((34 : Int32) &&& 0x3f).toInt64) &&& (2251799813685247 : Int64))).toInt = r.toInt + v.toInt * 17179869184 % 2251799813685248 ∧ (0 ≤ (r ||| ((v <<< ((34 : Int32) &&& 0x3f).toInt64) &&& (2251799813685247 : Int64))).toInt ∧ (r ||| ((v <<< ((34 : Int32) &&& 0x3f).toInt64) &&& (2251799813685247 : Int64))).toInt < 4398046511104) := by
  have c1 := c_lshl v 34 34 (by decide)
  have r1 := rng64 (v <<< ((34 : Int32) &&& 0x3f).toInt64)
  have c2 := c_maskL (v <<< ((34 : Int32) &&& 0x3f).toInt64) 2251799813685247 51 (by decide) (by decide)
  have c3 := c_orL' r ((v <<< ((34 : Int32) &&& 0x3f).toInt64) &&& (2251799813685247 : Int64)) 34 (by decide) 17179869184 (by decide) (by omega) (by omega) (by omega)
  have r2 := rng64 (r ||| ((v <<< ((34 : Int32) &&& 0x3f).toInt64) &&& (2251799813685247 : Int64)))
  omega
theorem own_limb36 (r v : Int64) (hr : 0 ≤ r.toInt ∧ r.toInt < 68719476736) (hv : 0 ≤ v.toInt ∧ v.toInt < 256) : (r ||| ((v <<< ((36 : Int32) &&& 0x3f).toInt64) &&& (2251799813685247 : Int64))).toInt = r.toInt + v.toInt * 68719476736 % 2251799813685248 ∧ (0 ≤ (r ||| ((v <<< ((36 : Int32) &&& 0x3f).toInt64) &&& (2251799813685247 : Int64))).toInt ∧ (r ||| ((v <<< ((36 : Int32) &&& 0x3f).toInt64) &&& (2251799813685247 : Int64))).toInt < 17592186044416) := by
  have c1 := c_lshl v 36 36 (by decide)
  have r1 := rng64 (v <<< ((36 : Int32) &&& 0x3f).toInt64)
  have c2 := c_maskL (v <<< ((36 : Int32) &&& 0x3f).toInt64) 2251799813685247 51 (by decide) (by decide)
  have c3 := c_orL' r ((v <<< ((36 : Int32) &&& 0x3f).toInt64) &&& (2251799813685247 : Int64)) 36 (by decide) 68719476736 (by decide) (by omega) (by omega) (by omega)
  have r2 := rng64 (r ||| ((v <<< ((36 : Int32) &&& 0x3f).toInt64) &&& (2251799813685247 : Int64)))
  omega
theorem own_limb37 (r v : Int64) (hr : 0 ≤ r.toInt ∧ r.toInt < 137438953472) (hv : 0 ≤ v.toInt ∧ v.toInt < 256) : (r ||| ((v <<< ((37 : Int32) &&& 0x3f).toInt64) &&& (2251799813685247 : Int64))).toInt = r.toInt + v.toInt * 137438953472 % 2251799813685248 ∧ (0 ≤ (r ||| ((v <<< ((37 : Int32) &&& 0x3f).toInt64) &&& (2251799813685247 : Int64))).toInt ∧ (r ||| ((v <<< ((37 : Int32) &&& 0x3f).toInt64) &&& (2251799813685247 : Int64))).toInt < 35184372088832) := by
  have c1 := c_lshl v 37 37 (by decide)
  have r1 := rng64 (v <<< ((37 : Int32) &&& 0x3f).toInt64)
  have c2 := c_maskL (v <<< ((37 : Int32) &&& 0x3f).toInt64) 2251799813685247 51 (by decide) (by decide)
  have c3 := c_orL' r ((v <<< ((37 : Int32) &&& 0x3f).toInt64) &&& (2251799813685247 : Int64)) 37 (by decide) 137438953472 (by decide) (by omega) (by omega) (by omega)
  have r2 := rng64 (r ||| ((v <<< ((37 : Int32) &&& 0x3f).toInt64) &&& (2251799813685247 : Int64)))
  omega
theorem own_limb39 (r v : Int64) (hr : 0 ≤ r.toInt ∧ r.toInt < 549755813888) (hv : 0 ≤ v.toInt ∧ v.toInt < 256) : (r ||| ((v <<< ((39 : Int32) &&& 0x3f).toInt64) &&& (2251799813685247 : Int64))).toInt = r.toInt + v.toInt * 549755813888 % 2251799813685248 ∧ (0 ≤ (r ||| ((v <<< ((39 : Int32) &&& 0x3f).toInt64) &&& (2251799813685247 : Int64))).toInt ∧ (r ||| ((v <<< ((39 : Int32) &&& 0x3f).toInt64) &&& (2251799813685247 : Int64))).toInt < 140737488355328) := by
  have c1 := c_lshl v 39 39 (by decide)
  have r1 := rng64 (v <<< ((39 : Int32) &&& 0x3f).toInt64)
  have c2 := c_maskL (v <<< ((39 : Int32) &&& 0x3f).toInt64) 2251799813685247 51 (by decide) (by decide)
  have c3 := c_orL' r ((v <<< ((39 : Int32) &&& 0x3f).toInt64) &&& (2251799813685247 : Int64)) 39 (by decide) 549755813888 (by decide) (by omega) (by omega) (by omega)
  have r2 := rng64 (r ||| ((v <<< ((39 : Int32) &&& 0x3f).toInt64) &&& (2251799813685247 : Int64)))
  omega
theorem own_limb40 (r v : Int64) (hr : 0 ≤ r.toInt ∧ r.toInt < 1099511627776) (hv : 0 ≤ v.toInt ∧ v.toInt < 256) : (r ||| ((v <<< ((40 : Int32) &&& 0x3f).toInt64) &&& (2251799813685247 : Int64))).toInt = r.toInt + v.toInt * 1099511627776 % 2251799813685248 ∧ (0 ≤ (r ||| ((v <<< ((40 : Int32) &&& 0x3f).toInt64) &&& (2251799813685247 : Int64))).toInt ∧ (r ||| ((v <<< ((40 : Int32) &&& 0x3f).toInt64) &&& (2251799813685247 : Int64))).toInt < 281474976710656) := by
  have c1 := c_lshl v 40 40 (by decide)
  have r1 := rng64 (v <<< ((40 : Int32) &&& 0x3f).toInt64)
  have c2 := c_maskL (v <<< ((40 : Int32) &&& 0x3f).toInt64) 2251799813685247 51 (by decide) (by decide)
  have c3 := c_orL' r ((v <<< ((40 : Int32) &&& 0x3f).toInt64) &&& (2251799813685247 : Int64)) 40 (by decide) 1099511627776 (by decide) (by omega) (by omega) (by omega)
  have r2 := rng64 (r ||| ((v <<< ((40 : Int32) &&& 0x3f).toInt64) &&& (2251799813685247 : Int64)))
  omega
theorem own_limb42 (r v : Int64) (hr : 0 ≤ r.toInt ∧ r.toInt < 4398046511104) (hv : 0 ≤ v.toInt ∧ v.toInt < 256) : (r ||| ((v <<< ((42 : Int32) &&& 0x3f).toInt64) &&& (2251799813685247 : Int64))).toInt = r.toInt + v.toInt * 4398046511104 % 2251799813685248 ∧ (0 ≤ (r ||| ((v <<< ((42 : Int32) &&& 0x3f).toInt64) &&& (2251799813685247 : Int64))).toInt ∧ (r ||| ((v <<< ((42 : Int32) &&& 0x3f).toInt64) &&& (2251799813685247 : Int64))).toInt < 1125899906842624) := by
  have c1 := c_lshl v 42 42 (by decide)
  have r1 := rng64 (v <<< ((42 : Int32) &&& 0x3f).toInt64)
  have c2 := c_maskL (v <<< ((42 : Int32) &&& 0x3f).toInt64) 2251799813685247 51 (by decide) (by decide)
  have c3 := c_orL' r ((v <<< ((42 : Int32) &&& 0x3f).toInt64) &&& (2251799813685247 : Int64)) 42 (by decide) 4398046511104 (by decide) (by omega) (by omega) (by omega)
  have r2 := rng64 (r ||| ((v <<< ((42 : Int32) &&& 0x3f).toInt64) &&& (2251799813685247 : Int64)))
  omega
theorem own_limb44 (r v : Int64) (hr : 0 ≤ r.toInt ∧ r.toInt < 17592186044416) (hv : 0 ≤ v.toInt ∧ v.toInt < 256) : (r ||| ((v <<< ((44 : Int32) &&& 0x3f).toInt64) &&& (2251799813685247 : Int64))).toInt = r.toInt + v.toInt * 17592186044416 % 2251799813685248 ∧ (0 ≤ (r ||| ((v <<< ((44 : Int32) &&& 0x3f).toInt64) &&& (2251799813685247 : Int64))).toInt ∧ (r ||| ((v <<< ((44 : Int32) &&& 0x3f).toInt64) &&& (2251799813685247 : Int64))).toInt < 2251799813685248) := by
  have c1 := c_lshl v 44 44 (by decide)
  have r1 := rng64 (v <<< ((44 : Int32) &&& 0x3f).toInt64)
  have c2 := c_maskL (v <<< ((44 : Int32) &&& 0x3f).toInt64) 2251799813685247 51 (by decide) (by decide)
  have c3 := c_orL' r ((v <<< ((44 : Int32) &&& 0x3f).toInt64) &&& (2251799813685247 : Int64)) 44 (by decide) 17592186044416 (by decide) (by omega) (by omega) (by omega)
  have r2 := rng64 (r ||| ((v <<< ((44 : Int32) &&& 0x3f).toInt64) &&& (2251799813685247 : Int64)))
  omega
theorem own_limb45 (r v : Int64) (hr : 0 ≤ r.toInt ∧ r.toInt < 35184372088832) (hv : 0 ≤ v.toInt ∧ v.toInt < 256) : (r ||| ((v <<< ((45 : Int32) &&& 0x3f).toInt64) &&& (2251799813685247 : Int64))).toInt = r.toInt + v.toInt * 35184372088832 % 2251799813685248 ∧ (0 ≤ (r ||| ((v <<< ((45 : Int32) &&& 0x3f).toInt64) &&& (2251799813685247 : Int64))).toInt ∧ (r ||| ((v <<< ((45 : Int32) &&& 0x3f).toInt64) &&& (2251799813685247 : Int64))).toInt < 2251799813685248) := by
  have c1 := c_lshl v 45 45 (by decide)
  have r1 := rng64 (v <<< ((45 : Int32) &&& 0x3f).toInt64)
  have c2 := c_maskL (v <<< ((45 : Int32) &&& 0x3f).toInt64) 2251799813685247 51 (by decide) (by decide)
  have c3 := c_orL' r ((v <<< ((45 : Int32) &&& 0x3f).toInt64) &&& (2251799813685247 : Int64)) 45 (by decide) 35184372088832 (by decide) (by omega) (by omega) (by omega)
  have r2 := rng64 (r ||| ((v <<< ((45 : Int32) &&& 0x3f).toInt64) &&& (2251799813685247 : Int64)))
  omega
theorem own_limb47 (r v : Int64) (hr : 0 ≤ r.toInt ∧ r.toInt < 140737488355328) (hv : 0 ≤ v.toInt ∧ v.toInt < 256) : (r ||| ((v <<< ((47 : Int32) &&& 0x3f).toInt64) &&& (2251799813685247 : Int64))).toInt = r.toInt + v.toInt * 140737488355328 % 2251799813685248 ∧ (0 ≤ (r ||| ((v <<< ((47 : Int32) &&& 0x3f).toInt64) &&& (2251799813685247 : Int64))).toInt ∧ (r ||| ((v <<< ((47 : Int32) &&& 0x3f).toInt64) &&& (2251799813685247 : Int64))).toInt < 2251799813685248) := by
  have c1 := c_lshl v 47 47 (by decide)
  have r1 := rng64 (v <<< ((47 : Int32) &&& 0x3f).toInt64)
  have c2 := c_maskL (v <<< ((47 : Int32) &&& 0x3f).toInt64) 2251799813685247 51 (by decide) (by decide)
  have c3 := c_orL' r ((v <<< ((47 : Int32) &&& 0x3f).toInt64) &&& (2251799813685247 : Int64)) 47 (by decide) 140737488355328 (by decide) (by omega) (by omega) (by omega)
  have r2 := rng64 (r ||| ((v <<< ((47 : Int32) &&& 0x3f).toInt64) &&& (2251799813685247 : Int64)))
  omega
theorem own_limb48 (r v : Int64) (hr : 0 ≤ r.toInt ∧ r.toInt < 281474976710656) (hv : 0 ≤ v.toInt ∧ v.toInt < 256) : (r ||| ((v <<< ((48 : Int32) &&& 0x3f).toInt64) &&& (2251799813685247 : Int64))).toInt = r.toInt + v.toInt * 281474976710656 % 2251799813685248 ∧ (0 ≤ (r ||| ((v <<< ((48 : Int32) &&& 0x3f).toInt64) &&& (2251799813685247 : Int64))).toInt ∧ (r ||| ((v <<< ((48 : Int32) &&& 0x3f).toInt64) &&& (2251799813685247 : Int64))).toInt < 2251799813685248) := by
  have c1 := c_lshl v 48 48 (by decide)
  have r1 := rng64 (v <<< ((48 : Int32) &&& 0x3f).toInt64)
  have c2 := c_maskL (v <<< ((48 : Int32) &&& 0x3f).toInt64) 2251799813685247 51 (by decide) (by decide)
  have c3 := c_orL' r ((v <<< ((48 : Int32) &&& 0x3f).toInt64) &&& (2251799813685247 : Int64)) 48 (by decide) 281474976710656 (by decide) (by omega) (by omega) (by omega)
  have r2 := rng64 (r ||| ((v <<< ((48 : Int32) &&& 0x3f).toInt64) &&& (2251799813685247 : Int64)))
  omega
theorem own_limb50 (r v : Int64) (hr : 0 ≤ r.toInt ∧ r.toInt < 1125899906842624) (hv : 0 ≤ v.toInt ∧ v.toInt < 256) : (r ||| ((v <<< ((50 : Int32) &&& 0x3f).toInt64) &&& (2251799813685247 : Int64))).toInt = r.toInt + v.toInt * 1125899906842624 % 2251799813685248 ∧ (0 ≤ (r ||| ((v <<< ((50 : Int32) &&& 0x3f).toInt64) &&& (2251799813685247 : Int64))).toInt ∧ (r ||| ((v <<< ((50 : Int32) &&& 0x3f).toInt64) &&& (2251799813685247 : Int64))).toInt < 2251799813685248) := by
  have c1 := c_lshl v 50 50 (by decide)
  have r1 := rng64 (v <<< ((50 : Int32) &&& 0x3f).toInt64)
  have c2 := c_maskL (v <<< ((50 : Int32) &&& 0x3f).toInt64) 2251799813685247 51 (by decide) (by decide)
  have c3 := c_orL' r ((v <<< ((50 : Int32) &&& 0x3f).toInt64) &&& (2251799813685247 : Int64)) 50 (by decide) 1125899906842624 (by decide) (by omega) (by omega) (by omega)
  have r2 := rng64 (r ||| ((v <<< ((50 : Int32) &&& 0x3f).toInt64) &&& (2251799813685247 : Int64)))
  omega
theorem own_over1 (v : Int64) (hv : 0 ≤ v.toInt ∧ v.toInt < 256) : ((0 : Int64) ||| ((v.toUInt64 >>> ((1 : Int32) &&& 0x3f).toInt64.toUInt64).toInt64)).toInt = v.toInt / 2 ∧ (0 ≤ ((0 : Int64) ||| ((v.toUInt64 >>> ((1 : Int32) &&& 0x3f).toInt64.toUInt64).toInt64)).toInt ∧ ((0 : Int64) ||| ((v.toUInt64 >>> ((1 : Int32) &&& 0x3f).toInt64.toUInt64).toInt64)).toInt < 128) := by
  have z : (0 : Int64).toInt = 0 := by decide
  have c1 := c_lushr v 1 1 (by decide) (by decide)
  have c3 := c_orL (0 : Int64) ((v.toUInt64 >>> ((1 : Int32) &&& 0x3f).toInt64.toUInt64).toInt64) 8 (by decide) 256 (by decide) (by omega) (by omega) (by omega)
  have r2 := rng64 ((0 : Int64) ||| ((v.toUInt64 >>> ((1 : Int32) &&& 0x3f).toInt64.toUInt64).toInt64))
  omega
theorem own_over3 (v : Int64) (hv : 0 ≤ v.toInt ∧ v.toInt < 256) : ((0 : Int64) ||| ((v.toUInt64 >>> ((3 : Int32) &&& 0x3f).toInt64.toUInt64).toInt64)).toInt = v.toInt / 8 ∧ (0 ≤ ((0 : Int64) ||| ((v.toUInt64 >>> ((3 : Int32) &&& 0x3f).toInt64.toUInt64).toInt64)).toInt ∧ ((0 : Int64) ||| ((v.toUInt64 >>> ((3 : Int32) &&& 0x3f).toInt64.toUInt64).toInt64)).toInt < 32) := by
  have z : (0 : Int64).toInt = 0 := by decide
  have c1 := c_lushr v 3 3 (by decide) (by decide)
  have c3 := c_orL (0 : Int64) ((v.toUInt64 >>> ((3 : Int32) &&& 0x3f).toInt64.toUInt64).toInt64) 8 (by decide) 256 (by decide) (by omega) (by omega) (by omega)
  have r2 := rng64 ((0 : Int64) ||| ((v.toUInt64 >>> ((3 : Int32) &&& 0x3f).toInt64.toUInt64).toInt64))
  omega
theorem own_over4 (v : Int64) (hv : 0 ≤ v.toInt ∧ v.toInt < 256) : ((0 : Int64) ||| ((v.toUInt64 >>> ((4 : Int32) &&& 0x3f).toInt64.toUInt64).toInt64)).toInt = v.toInt / 16 ∧ (0 ≤ ((0 : Int64) ||| ((v.toUInt64 >>> ((4 : Int32) &&& 0x3f).toInt64.toUInt64).toInt64)).toInt ∧ ((0 : Int64) ||| ((v.toUInt64 >>> ((4 : Int32) &&& 0x3f).toInt64.toUInt64).toInt64)).toInt < 16) := by
  have z : (0 : Int64).toInt = 0 := by decide
  have c1 := c_lushr v 4 4 (by decide) (by decide)
  have c3 := c_orL (0 : Int64) ((v.toUInt64 >>> ((4 : Int32) &&& 0x3f).toInt64.toUInt64).toInt64) 8 (by decide) 256 (by decide) (by omega) (by omega) (by omega)
  have r2 := rng64 ((0 : Int64) ||| ((v.toUInt64 >>> ((4 : Int32) &&& 0x3f).toInt64.toUInt64).toInt64))
  omega
theorem own_over6 (v : Int64) (hv : 0 ≤ v.toInt ∧ v.toInt < 256) : ((0 : Int64) ||| ((v.toUInt64 >>> ((6 : Int32) &&& 0x3f).toInt64.toUInt64).toInt64)).toInt = v.toInt / 64 ∧ (0 ≤ ((0 : Int64) ||| ((v.toUInt64 >>> ((6 : Int32) &&& 0x3f).toInt64.toUInt64).toInt64)).toInt ∧ ((0 : Int64) ||| ((v.toUInt64 >>> ((6 : Int32) &&& 0x3f).toInt64.toUInt64).toInt64)).toInt < 4) := by
  have z : (0 : Int64).toInt = 0 := by decide
  have c1 := c_lushr v 6 6 (by decide) (by decide)
  have c3 := c_orL (0 : Int64) ((v.toUInt64 >>> ((6 : Int32) &&& 0x3f).toInt64.toUInt64).toInt64) 8 (by decide) 256 (by decide) (by omega) (by omega) (by omega)
  have r2 := rng64 ((0 : Int64) ||| ((v.toUInt64 >>> ((6 : Int32) &&& 0x3f).toInt64.toUInt64).toInt64))
  omega
theorem own_rv (x : Int32) : 0 ≤ ((x &&& (255 : Int32)).toInt64).toInt ∧ ((x &&& (255 : Int32)).toInt64).toInt < 256 := by
  have a := c_mask x 255 8 (by decide) (by decide)
  rw [c_i2l]
  omega
theorem own_rv7 (x : Int32) : 0 ≤ ((x &&& (127 : Int32)).toInt64).toInt ∧ ((x &&& (127 : Int32)).toInt64).toInt < 256 := by
  have a := c_mask x 127 7 (by decide) (by decide)
  rw [c_i2l]
  omega
def own_res (r0 r1 r2 r3 r4 : Int64) (b : Addr) : Value := if r0 < (2251799813685229 : Int64) then .ref b else if r1 = (2251799813685247 : Int64) then (if r2 = (2251799813685247 : Int64) then (if r3 = (2251799813685247 : Int64) then (if r4 = (2251799813685247 : Int64) then .null else .ref b) else .ref b) else .ref b) else .ref b
theorem own_d2_0 : decode prog_11_method_4_code 0 = .ok (.iconst 5, 1) := by decide +kernel
theorem own_d2_1 : decode prog_11_method_4_code 1 = .ok (.newarray .long, 2) := by decide +kernel
theorem own_d2_3 : decode prog_11_method_4_code 3 = .ok (.astore_n 2, 1) := by decide +kernel
theorem own_d2_4 : decode prog_11_method_4_code 4 = .ok (.iconst 0, 1) := by decide +kernel
theorem own_d2_5 : decode prog_11_method_4_code 5 = .ok (.istore_n 3, 1) := by decide +kernel
theorem own_d2_6 : decode prog_11_method_4_code 6 = .ok (.iload_n 3, 1) := by decide +kernel
theorem own_d2_7 : decode prog_11_method_4_code 7 = .ok (.sipush 255, 3) := by decide +kernel
theorem own_d2_10 : decode prog_11_method_4_code 10 = .ok (.if_icmp .ge 96, 3) := by decide +kernel
theorem own_d2_13 : decode prog_11_method_4_code 13 = .ok (.aload_n 0, 1) := by decide +kernel
theorem own_d2_14 : decode prog_11_method_4_code 14 = .ok (.iload_n 1, 1) := by decide +kernel
theorem own_d2_15 : decode prog_11_method_4_code 15 = .ok (.iload_n 3, 1) := by decide +kernel
theorem own_d2_16 : decode prog_11_method_4_code 16 = .ok (.bipush 8, 2) := by decide +kernel
theorem own_d2_18 : decode prog_11_method_4_code 18 = .ok (.idiv, 1) := by decide +kernel
theorem own_d2_19 : decode prog_11_method_4_code 19 = .ok (.iadd, 1) := by decide +kernel
theorem own_d2_20 : decode prog_11_method_4_code 20 = .ok (.baload, 1) := by decide +kernel
theorem own_d2_21 : decode prog_11_method_4_code 21 = .ok (.iload_n 3, 1) := by decide +kernel
theorem own_d2_22 : decode prog_11_method_4_code 22 = .ok (.sipush 248, 3) := by decide +kernel
theorem own_d2_25 : decode prog_11_method_4_code 25 = .ok (.if_icmp .ne 8, 3) := by decide +kernel
theorem own_d2_33 : decode prog_11_method_4_code 33 = .ok (.sipush 255, 3) := by decide +kernel
theorem own_d2_36 : decode prog_11_method_4_code 36 = .ok (.iand, 1) := by decide +kernel
theorem own_d2_37 : decode prog_11_method_4_code 37 = .ok (.i2l, 1) := by decide +kernel
theorem own_d2_38 : decode prog_11_method_4_code 38 = .ok (.lstore 4, 2) := by decide +kernel
theorem own_d2_40 : decode prog_11_method_4_code 40 = .ok (.aload_n 2, 1) := by decide +kernel
theorem own_d2_41 : decode prog_11_method_4_code 41 = .ok (.iload_n 3, 1) := by decide +kernel
theorem own_d2_42 : decode prog_11_method_4_code 42 = .ok (.bipush 51, 2) := by decide +kernel
theorem own_d2_44 : decode prog_11_method_4_code 44 = .ok (.idiv, 1) := by decide +kernel
theorem own_d2_45 : decode prog_11_method_4_code 45 = .ok (.dup2, 1) := by decide +kernel
theorem own_d2_46 : decode prog_11_method_4_code 46 = .ok (.laload, 1) := by decide +kernel
theorem own_d2_47 : decode prog_11_method_4_code 47 = .ok (.lload 4, 2) := by decide +kernel
theorem own_d2_49 : decode prog_11_method_4_code 49 = .ok (.iload_n 3, 1) := by decide +kernel
theorem own_d2_50 : decode prog_11_method_4_code 50 = .ok (.bipush 51, 2) := by decide +kernel
theorem own_d2_52 : decode prog_11_method_4_code 52 = .ok (.irem, 1) := by decide +kernel
theorem own_d2_53 : decode prog_11_method_4_code 53 = .ok (.lshl, 1) := by decide +kernel
theorem own_d2_54 : decode prog_11_method_4_code 54 = .ok (.ldc2_w 19, 3) := by decide +kernel
theorem own_d2_57 : decode prog_11_method_4_code 57 = .ok (.land, 1) := by decide +kernel
theorem own_d2_58 : decode prog_11_method_4_code 58 = .ok (.lor, 1) := by decide +kernel
theorem own_d2_59 : decode prog_11_method_4_code 59 = .ok (.lastore, 1) := by decide +kernel
theorem own_d2_60 : decode prog_11_method_4_code 60 = .ok (.iload_n 3, 1) := by decide +kernel
theorem own_d2_61 : decode prog_11_method_4_code 61 = .ok (.bipush 51, 2) := by decide +kernel
theorem own_d2_63 : decode prog_11_method_4_code 63 = .ok (.irem, 1) := by decide +kernel
theorem own_d2_64 : decode prog_11_method_4_code 64 = .ok (.bipush 43, 2) := by decide +kernel
theorem own_d2_66 : decode prog_11_method_4_code 66 = .ok (.if_icmp .le 34, 3) := by decide +kernel
theorem own_d2_100 : decode prog_11_method_4_code 100 = .ok (.iinc 3 8, 3) := by decide +kernel
theorem own_d2_103 : decode prog_11_method_4_code 103 = .ok (.goto (-97), 3) := by decide +kernel
theorem own_d2_69 : decode prog_11_method_4_code 69 = .ok (.iload_n 3, 1) := by decide +kernel
theorem own_d2_70 : decode prog_11_method_4_code 70 = .ok (.bipush 51, 2) := by decide +kernel
theorem own_d2_72 : decode prog_11_method_4_code 72 = .ok (.idiv, 1) := by decide +kernel
theorem own_d2_73 : decode prog_11_method_4_code 73 = .ok (.iconst 1, 1) := by decide +kernel
theorem own_d2_74 : decode prog_11_method_4_code 74 = .ok (.iadd, 1) := by decide +kernel
theorem own_d2_75 : decode prog_11_method_4_code 75 = .ok (.iconst 5, 1) := by decide +kernel
theorem own_d2_76 : decode prog_11_method_4_code 76 = .ok (.if_icmp .ge 24, 3) := by decide +kernel
theorem own_d2_79 : decode prog_11_method_4_code 79 = .ok (.aload_n 2, 1) := by decide +kernel
theorem own_d2_80 : decode prog_11_method_4_code 80 = .ok (.iload_n 3, 1) := by decide +kernel
theorem own_d2_81 : decode prog_11_method_4_code 81 = .ok (.bipush 51, 2) := by decide +kernel
theorem own_d2_83 : decode prog_11_method_4_code 83 = .ok (.idiv, 1) := by decide +kernel
theorem own_d2_84 : decode prog_11_method_4_code 84 = .ok (.iconst 1, 1) := by decide +kernel
theorem own_d2_85 : decode prog_11_method_4_code 85 = .ok (.iadd, 1) := by decide +kernel
theorem own_d2_86 : decode prog_11_method_4_code 86 = .ok (.dup2, 1) := by decide +kernel
theorem own_d2_87 : decode prog_11_method_4_code 87 = .ok (.laload, 1) := by decide +kernel
theorem own_d2_88 : decode prog_11_method_4_code 88 = .ok (.lload 4, 2) := by decide +kernel
theorem own_d2_90 : decode prog_11_method_4_code 90 = .ok (.bipush 51, 2) := by decide +kernel
theorem own_d2_92 : decode prog_11_method_4_code 92 = .ok (.iload_n 3, 1) := by decide +kernel
theorem own_d2_93 : decode prog_11_method_4_code 93 = .ok (.bipush 51, 2) := by decide +kernel
theorem own_d2_95 : decode prog_11_method_4_code 95 = .ok (.irem, 1) := by decide +kernel
theorem own_d2_96 : decode prog_11_method_4_code 96 = .ok (.isub, 1) := by decide +kernel
theorem own_d2_97 : decode prog_11_method_4_code 97 = .ok (.lushr, 1) := by decide +kernel
theorem own_d2_98 : decode prog_11_method_4_code 98 = .ok (.lor, 1) := by decide +kernel
theorem own_d2_99 : decode prog_11_method_4_code 99 = .ok (.lastore, 1) := by decide +kernel
theorem own_d2_28 : decode prog_11_method_4_code 28 = .ok (.bipush 127, 2) := by decide +kernel
theorem own_d2_30 : decode prog_11_method_4_code 30 = .ok (.goto 6, 3) := by decide +kernel
theorem own_d2_106 : decode prog_11_method_4_code 106 = .ok (.aload_n 2, 1) := by decide +kernel
theorem own_d2_107 : decode prog_11_method_4_code 107 = .ok (.iconst 0, 1) := by decide +kernel
theorem own_d2_108 : decode prog_11_method_4_code 108 = .ok (.laload, 1) := by decide +kernel
theorem own_d2_109 : decode prog_11_method_4_code 109 = .ok (.ldc2_w 40, 3) := by decide +kernel
theorem own_d2_112 : decode prog_11_method_4_code 112 = .ok (.lcmp, 1) := by decide +kernel
theorem own_d2_113 : decode prog_11_method_4_code 113 = .ok (.ifCond .lt 43, 3) := by decide +kernel
theorem own_d2_156 : decode prog_11_method_4_code 156 = .ok (.iconst 1, 1) := by decide +kernel
theorem own_d2_157 : decode prog_11_method_4_code 157 = .ok (.goto 4, 3) := by decide +kernel
theorem own_d2_161 : decode prog_11_method_4_code 161 = .ok (.istore_n 3, 1) := by decide +kernel
theorem own_d2_162 : decode prog_11_method_4_code 162 = .ok (.iload_n 3, 1) := by decide +kernel
theorem own_d2_163 : decode prog_11_method_4_code 163 = .ok (.ifCond .eq 7, 3) := by decide +kernel
theorem own_d2_166 : decode prog_11_method_4_code 166 = .ok (.aload_n 2, 1) := by decide +kernel
theorem own_d2_167 : decode prog_11_method_4_code 167 = .ok (.goto 4, 3) := by decide +kernel
theorem own_d2_171 : decode prog_11_method_4_code 171 = .ok (.areturn, 1) := by decide +kernel
theorem own_d2_116 : decode prog_11_method_4_code 116 = .ok (.aload_n 2, 1) := by decide +kernel
theorem own_d2_117 : decode prog_11_method_4_code 117 = .ok (.iconst 1, 1) := by decide +kernel
theorem own_d2_118 : decode prog_11_method_4_code 118 = .ok (.laload, 1) := by decide +kernel
theorem own_d2_119 : decode prog_11_method_4_code 119 = .ok (.ldc2_w 19, 3) := by decide +kernel
theorem own_d2_122 : decode prog_11_method_4_code 122 = .ok (.lcmp, 1) := by decide +kernel
theorem own_d2_123 : decode prog_11_method_4_code 123 = .ok (.ifCond .ne 33, 3) := by decide +kernel
theorem own_d2_126 : decode prog_11_method_4_code 126 = .ok (.aload_n 2, 1) := by decide +kernel
theorem own_d2_127 : decode prog_11_method_4_code 127 = .ok (.iconst 2, 1) := by decide +kernel
theorem own_d2_128 : decode prog_11_method_4_code 128 = .ok (.laload, 1) := by decide +kernel
theorem own_d2_129 : decode prog_11_method_4_code 129 = .ok (.ldc2_w 19, 3) := by decide +kernel
theorem own_d2_132 : decode prog_11_method_4_code 132 = .ok (.lcmp, 1) := by decide +kernel
theorem own_d2_133 : decode prog_11_method_4_code 133 = .ok (.ifCond .ne 23, 3) := by decide +kernel
theorem own_d2_136 : decode prog_11_method_4_code 136 = .ok (.aload_n 2, 1) := by decide +kernel
theorem own_d2_137 : decode prog_11_method_4_code 137 = .ok (.iconst 3, 1) := by decide +kernel
theorem own_d2_138 : decode prog_11_method_4_code 138 = .ok (.laload, 1) := by decide +kernel
theorem own_d2_139 : decode prog_11_method_4_code 139 = .ok (.ldc2_w 19, 3) := by decide +kernel
theorem own_d2_142 : decode prog_11_method_4_code 142 = .ok (.lcmp, 1) := by decide +kernel
theorem own_d2_143 : decode prog_11_method_4_code 143 = .ok (.ifCond .ne 13, 3) := by decide +kernel
theorem own_d2_146 : decode prog_11_method_4_code 146 = .ok (.aload_n 2, 1) := by decide +kernel
theorem own_d2_147 : decode prog_11_method_4_code 147 = .ok (.iconst 4, 1) := by decide +kernel
theorem own_d2_148 : decode prog_11_method_4_code 148 = .ok (.laload, 1) := by decide +kernel
theorem own_d2_149 : decode prog_11_method_4_code 149 = .ok (.ldc2_w 19, 3) := by decide +kernel
theorem own_d2_152 : decode prog_11_method_4_code 152 = .ok (.lcmp, 1) := by decide +kernel
theorem own_d2_153 : decode prog_11_method_4_code 153 = .ok (.ifCond .eq 7, 3) := by decide +kernel
theorem own_d2_160 : decode prog_11_method_4_code 160 = .ok (.iconst 0, 1) := by decide +kernel
theorem own_d2_170 : decode prog_11_method_4_code 170 = .ok (.aconst_null, 1) := by decide +kernel
theorem own_pn1 : plainName "io/github/keyhold/core/Ed25519Field" = true := by first | (simp [plainName, overriddenIn]; done) | decide +kernel
theorem own_rm2_ef (m : MethodId) (a : Addr) (o : Int32) (k : ClassId) (vs : List Value) (n : Nat) (bb : Nat → Int32) (r0 : Int64) (r1 : Int64) (r2 : Int64) (r3 : Int64) (r4 : Int64) : entryFrame m #[(.ref a), (.int o)] 6 = mkF m 0 #[.val (.ref a), .val (.int o), .unset, .unset, .unset, .unset] [] := by first | (simp [entryFrame, mkF, argsToLocals, Value.category]; done) | rfl
def own_rm2_Q (Z : State) (a : Addr) (o : Int32) (k : ClassId) (vs : List Value) (n : Nat) (bb : Nat → Int32) (r0 : Int64) (r1 : Int64) (r2 : Int64) (r3 : Int64) (r4 : Int64) (h0 : Heap) (n0 : Nat) (v : Option Value) (h : Heap) (L : List Loc) : Prop := ∃ b kb, v = some (own_res r0 r1 r2 r3 r4 b) ∧ Fr n0 L ∧ Keep h0 h [] ∧ h0.size ≤ b ∧ Arv Z h b kb .long (5 : Int32) [(.long r0), (.long r1), (.long r2), (.long r3), (.long r4)] (.long (0 : Int64))
set_option maxRecDepth 65536 in
set_option maxHeartbeats 40000000 in
theorem own_rm2 (l : Launch) (Z : State) (a0 : Array Value) (hw : ∀ d ∈ tables_1, d.before a0 Z = true) (ws : List Jvm.Cond) (a : Addr) (o : Int32) (k : ClassId) (vs : List Value) (n : Nat) (bb : Nat → Int32) (r0 : Int64) (r1 : Int64) (r2 : Int64) (r3 : Int64) (r4 : Int64) (h0 : Heap) (n0 : Nat) (Z0 : n0 ≤ h0.size) (V_a : Arv Z h0 a k .byte (40 : Int32) vs (.int (0 : Int32))) (ho : ¬ o < 0) (hn : o.toNatClampNeg = n) (hb40 : n + 32 ≤ 40) (hbj : ∀ j, j < 32 → vs.getD (n + j) (.int (0 : Int32)) = .int (bb j)) (hr0 : r0.toInt = (bb 0 &&& (255 : Int32)).toInt * 1 % 2251799813685248 + (bb 1 &&& (255 : Int32)).toInt * 256 % 2251799813685248 + (bb 2 &&& (255 : Int32)).toInt * 65536 % 2251799813685248 + (bb 3 &&& (255 : Int32)).toInt * 16777216 % 2251799813685248 + (bb 4 &&& (255 : Int32)).toInt * 4294967296 % 2251799813685248 + (bb 5 &&& (255 : Int32)).toInt * 1099511627776 % 2251799813685248 + (bb 6 &&& (255 : Int32)).toInt * 281474976710656 % 2251799813685248) (hr1 : r1.toInt = (bb 6 &&& (255 : Int32)).toInt / 8 + (bb 7 &&& (255 : Int32)).toInt * 32 % 2251799813685248 + (bb 8 &&& (255 : Int32)).toInt * 8192 % 2251799813685248 + (bb 9 &&& (255 : Int32)).toInt * 2097152 % 2251799813685248 + (bb 10 &&& (255 : Int32)).toInt * 536870912 % 2251799813685248 + (bb 11 &&& (255 : Int32)).toInt * 137438953472 % 2251799813685248 + (bb 12 &&& (255 : Int32)).toInt * 35184372088832 % 2251799813685248) (hr2 : r2.toInt = (bb 12 &&& (255 : Int32)).toInt / 64 + (bb 13 &&& (255 : Int32)).toInt * 4 % 2251799813685248 + (bb 14 &&& (255 : Int32)).toInt * 1024 % 2251799813685248 + (bb 15 &&& (255 : Int32)).toInt * 262144 % 2251799813685248 + (bb 16 &&& (255 : Int32)).toInt * 67108864 % 2251799813685248 + (bb 17 &&& (255 : Int32)).toInt * 17179869184 % 2251799813685248 + (bb 18 &&& (255 : Int32)).toInt * 4398046511104 % 2251799813685248 + (bb 19 &&& (255 : Int32)).toInt * 1125899906842624 % 2251799813685248) (hr3 : r3.toInt = (bb 19 &&& (255 : Int32)).toInt / 2 + (bb 20 &&& (255 : Int32)).toInt * 128 % 2251799813685248 + (bb 21 &&& (255 : Int32)).toInt * 32768 % 2251799813685248 + (bb 22 &&& (255 : Int32)).toInt * 8388608 % 2251799813685248 + (bb 23 &&& (255 : Int32)).toInt * 2147483648 % 2251799813685248 + (bb 24 &&& (255 : Int32)).toInt * 549755813888 % 2251799813685248 + (bb 25 &&& (255 : Int32)).toInt * 140737488355328 % 2251799813685248) (hr4 : r4.toInt = (bb 25 &&& (255 : Int32)).toInt / 16 + (bb 26 &&& (255 : Int32)).toInt * 16 % 2251799813685248 + (bb 27 &&& (255 : Int32)).toInt * 4096 % 2251799813685248 + (bb 28 &&& (255 : Int32)).toInt * 1048576 % 2251799813685248 + (bb 29 &&& (255 : Int32)).toInt * 268435456 % 2251799813685248 + (bb 30 &&& (255 : Int32)).toInt * 68719476736 % 2251799813685248 + (bb 31 &&& (127 : Int32)).toInt * 17592186044416 % 2251799813685248) :
    MetFree l (⟨"io/github/keyhold/core/Ed25519Field", "fromBytes", "([BI)[J"⟩ : MethodName) (head1 (Jvm.Cond.code (⟨"io/github/keyhold/core/Ed25519Field", "fromBytes", "([BI)[J"⟩ : MethodName) prog_11_method_4_code 6 (some (.array .long)) :: ws) ({ frames := 0, cells := 1, slots := 5, locals := 0 } : Room)) (fun as_ U => as_ = #[(.ref a), (.int o)] ∧ Z.Warmed39 U.vm ∧ U.heap = h0) (fun _ _ _ _ _ => True) (fun _ U_ o_ V_ => ∃ v_ L_, o_ = .returned v_ ∧ own_rm2_Q Z a o k vs n bb r0 r1 r2 r3 r4 h0 n0 v_ V_.heap L_ ∧ FrameEnd U_ o_ V_ L_ ({ frames := 0, cells := 1, slots := 5, locals := 0 } : Room).cells ({ frames := 0, cells := 1, slots := 5, locals := 0 } : Room).slots) := by
  refine MetFree.of_bodySF (plainFor_of_name own_pn1) hisR ?_
  intro p e s m args below meth c s₁ Bd hml0 hP hK
  obtain ⟨rfl, hZ, hh⟩ := hP
  have hx := Bd.exec
  have hby := Bd.bytes
  have hml : c.maxLocals = 6 := hml0
  have hown : s.vm.findClass "io/github/keyhold/core/Ed25519Field" = some m.cls := findClass_of_methodNamed Bd.named
  have hnm := (name_of_methodNamed Bd.named Bd.method).1
  have X0 : Stand p l e ({ frames := 0, cells := 1, slots := 5, locals := 0 } : Room) s m #[(.ref a), (.int o)] below meth c s₁ [] 0 0 := Stand.of_body Bd
  have e0 : s₁.heap = h0 := by rw [← hh, Bd.state]; rfl
  have N0 := Fr.nil n0
  refine own_begin (own_rm2_ef m a o k vs n bb r0 r1 r2 r3 r4) ?_
  show Ends p.tables e below (s₁.setTop (mkF m 0 #[.val (.ref a), .val (.int o), .unset, .unset, .unset, .unset] [])) _
  have Kr0 : Keep h0 h0 [] := Keep.refl h0 _
  have z64 : (0 : Int64).toInt = 0 := by decide
  have ix0 := own_idx (i := (0 : Int32)) (k := 0) ho hn (by decide) (Nat.lt_of_lt_of_le (Nat.add_lt_add_left (by decide) n) hb40)
  have ix1 := own_idx (i := (1 : Int32)) (k := 1) ho hn (by decide) (Nat.lt_of_lt_of_le (Nat.add_lt_add_left (by decide) n) hb40)
  have ix2 := own_idx (i := (2 : Int32)) (k := 2) ho hn (by decide) (Nat.lt_of_lt_of_le (Nat.add_lt_add_left (by decide) n) hb40)
  have ix3 := own_idx (i := (3 : Int32)) (k := 3) ho hn (by decide) (Nat.lt_of_lt_of_le (Nat.add_lt_add_left (by decide) n) hb40)
  have ix4 := own_idx (i := (4 : Int32)) (k := 4) ho hn (by decide) (Nat.lt_of_lt_of_le (Nat.add_lt_add_left (by decide) n) hb40)
  have ix5 := own_idx (i := (5 : Int32)) (k := 5) ho hn (by decide) (Nat.lt_of_lt_of_le (Nat.add_lt_add_left (by decide) n) hb40)
  have ix6 := own_idx (i := (6 : Int32)) (k := 6) ho hn (by decide) (Nat.lt_of_lt_of_le (Nat.add_lt_add_left (by decide) n) hb40)
  have ix7 := own_idx (i := (7 : Int32)) (k := 7) ho hn (by decide) (Nat.lt_of_lt_of_le (Nat.add_lt_add_left (by decide) n) hb40)
  have ix8 := own_idx (i := (8 : Int32)) (k := 8) ho hn (by decide) (Nat.lt_of_lt_of_le (Nat.add_lt_add_left (by decide) n) hb40)
  have ix9 := own_idx (i := (9 : Int32)) (k := 9) ho hn (by decide) (Nat.lt_of_lt_of_le (Nat.add_lt_add_left (by decide) n) hb40)
  have ix10 := own_idx (i := (10 : Int32)) (k := 10) ho hn (by decide) (Nat.lt_of_lt_of_le (Nat.add_lt_add_left (by decide) n) hb40)
  have ix11 := own_idx (i := (11 : Int32)) (k := 11) ho hn (by decide) (Nat.lt_of_lt_of_le (Nat.add_lt_add_left (by decide) n) hb40)
  have ix12 := own_idx (i := (12 : Int32)) (k := 12) ho hn (by decide) (Nat.lt_of_lt_of_le (Nat.add_lt_add_left (by decide) n) hb40)
  have ix13 := own_idx (i := (13 : Int32)) (k := 13) ho hn (by decide) (Nat.lt_of_lt_of_le (Nat.add_lt_add_left (by decide) n) hb40)
  have ix14 := own_idx (i := (14 : Int32)) (k := 14) ho hn (by decide) (Nat.lt_of_lt_of_le (Nat.add_lt_add_left (by decide) n) hb40)
  have ix15 := own_idx (i := (15 : Int32)) (k := 15) ho hn (by decide) (Nat.lt_of_lt_of_le (Nat.add_lt_add_left (by decide) n) hb40)
  have ix16 := own_idx (i := (16 : Int32)) (k := 16) ho hn (by decide) (Nat.lt_of_lt_of_le (Nat.add_lt_add_left (by decide) n) hb40)
  have ix17 := own_idx (i := (17 : Int32)) (k := 17) ho hn (by decide) (Nat.lt_of_lt_of_le (Nat.add_lt_add_left (by decide) n) hb40)
  have ix18 := own_idx (i := (18 : Int32)) (k := 18) ho hn (by decide) (Nat.lt_of_lt_of_le (Nat.add_lt_add_left (by decide) n) hb40)
  have ix19 := own_idx (i := (19 : Int32)) (k := 19) ho hn (by decide) (Nat.lt_of_lt_of_le (Nat.add_lt_add_left (by decide) n) hb40)
  have ix20 := own_idx (i := (20 : Int32)) (k := 20) ho hn (by decide) (Nat.lt_of_lt_of_le (Nat.add_lt_add_left (by decide) n) hb40)
  have ix21 := own_idx (i := (21 : Int32)) (k := 21) ho hn (by decide) (Nat.lt_of_lt_of_le (Nat.add_lt_add_left (by decide) n) hb40)
  have ix22 := own_idx (i := (22 : Int32)) (k := 22) ho hn (by decide) (Nat.lt_of_lt_of_le (Nat.add_lt_add_left (by decide) n) hb40)
  have ix23 := own_idx (i := (23 : Int32)) (k := 23) ho hn (by decide) (Nat.lt_of_lt_of_le (Nat.add_lt_add_left (by decide) n) hb40)
  have ix24 := own_idx (i := (24 : Int32)) (k := 24) ho hn (by decide) (Nat.lt_of_lt_of_le (Nat.add_lt_add_left (by decide) n) hb40)
  have ix25 := own_idx (i := (25 : Int32)) (k := 25) ho hn (by decide) (Nat.lt_of_lt_of_le (Nat.add_lt_add_left (by decide) n) hb40)
  have ix26 := own_idx (i := (26 : Int32)) (k := 26) ho hn (by decide) (Nat.lt_of_lt_of_le (Nat.add_lt_add_left (by decide) n) hb40)
  have ix27 := own_idx (i := (27 : Int32)) (k := 27) ho hn (by decide) (Nat.lt_of_lt_of_le (Nat.add_lt_add_left (by decide) n) hb40)
  have ix28 := own_idx (i := (28 : Int32)) (k := 28) ho hn (by decide) (Nat.lt_of_lt_of_le (Nat.add_lt_add_left (by decide) n) hb40)
  have ix29 := own_idx (i := (29 : Int32)) (k := 29) ho hn (by decide) (Nat.lt_of_lt_of_le (Nat.add_lt_add_left (by decide) n) hb40)
  have ix30 := own_idx (i := (30 : Int32)) (k := 30) ho hn (by decide) (Nat.lt_of_lt_of_le (Nat.add_lt_add_left (by decide) n) hb40)
  have ix31 := own_idx (i := (31 : Int32)) (k := 31) ho hn (by decide) (Nat.lt_of_lt_of_le (Nat.add_lt_add_left (by decide) n) hb40)
  refine s_iconst (pc' := 1) X0.here hx (v := (5 : Int32)) (hb hby own_d2_0) rfl rfl ?_
  refine s_newP (pc' := 3) (cap := 5) X0 hx hZ (hw _ (List.mem_of_getElem? (i := 9) rfl)) e0 (hb hby own_d2_1) (by decide) (by decide) (by decide) (by decide) (by decide) rfl fun T1 hp1 X1 e1 ka1 E1 rr gq1 A1 => ?_
  have g_rr : n0 ≤ rr := Nat.le_trans Z0 (Nat.le_of_eq gq1.symm)
  have sz_rr : h0.size ≤ rr := Nat.le_trans Kr0.1 (Nat.le_of_eq gq1.symm)
  have ne2 : a ≠ rr := Nat.ne_of_lt (Nat.lt_of_lt_of_le V_a.lt (Nat.le_of_eq gq1.symm))
  have f3 := V_a.ext E1
  have Z4 : n0 ≤ hp1.size := Nat.le_trans Z0 E1.1
  have K5 : Keep h0 hp1 [] := Kr0.ext E1
  have V6 : Arv Z hp1 rr ka1 .long (5 : Int32) [(.long (0 : Int64)), (.long (0 : Int64)), (.long (0 : Int64)), (.long (0 : Int64)), (.long (0 : Int64))] (.long (0 : Int64)) := (Arv.new A1 (by decide)).pad (pad_rep [] (.long (0 : Int64)) 5)
  refine s_astoreN (pc' := 4) X1.here hx (l' := #[.val (.ref a), .val (.int o), .val (.ref rr), .unset, .unset, .unset]) (hb hby own_d2_3) rfl rfl rfl ?_
  refine s_iconst (pc' := 5) X1.here hx (v := (0 : Int32)) (hb hby own_d2_4) rfl rfl ?_
  refine s_istoreN (pc' := 6) X1.here hx (l' := #[.val (.ref a), .val (.int o), .val (.ref rr), .val (.int (0 : Int32)), .unset, .unset]) (hb hby own_d2_5) rfl rfl ?_
  refine s_iloadN (pc' := 7) X1.here hx (hb hby own_d2_6) rfl rfl ?_
  refine s_sipush (pc' := 10) X1.here hx (v := (255 : Int32)) (hb hby own_d2_7) rfl rfl ?_
  have hk7 : (0 : Int32) < (255 : Int32) := by decide
  refine s_icmpNo (pc' := 13) X1.here hx (hb hby own_d2_10) (tlt hk7).2.1 rfl ?_
  refine s_aloadN (pc' := 14) X1.here hx (hb hby own_d2_13) rfl rfl rfl ?_
  refine s_iloadN (pc' := 15) X1.here hx (hb hby own_d2_14) rfl rfl ?_
  refine s_iloadN (pc' := 16) X1.here hx (hb hby own_d2_15) rfl rfl ?_
  refine s_bipush (pc' := 18) X1.here hx (v := (8 : Int32)) (hb hby own_d2_16) rfl rfl ?_
  refine s_idiv (pc' := 19) X1.here hx (hb hby own_d2_18) (by decide) rfl ?_
  refine s_iadd (pc' := 20) X1.here hx (hb hby own_d2_19) rfl ?_
  rw [show ((0 : Int32) / (8 : Int32)) = (0 : Int32) from by decide]
  refine s_baload (pc' := 21) (v := (.int (bb 0))) X1 hx hZ e1 f3 ⟨ix0.1, ix0.2.1⟩ (by rw [ix0.2.2]; exact hbj 0 (by decide)) (hb hby own_d2_20) rfl ?_
  refine s_iloadN (pc' := 22) X1.here hx (hb hby own_d2_21) rfl rfl ?_
  refine s_sipush (pc' := 25) X1.here hx (v := (248 : Int32)) (hb hby own_d2_22) rfl rfl ?_
  have hk8 : ¬ ((0 : Int32) = (248 : Int32)) := by decide
  refine s_icmpYes (pc' := 33) X1.here hx (hb hby own_d2_25) (feq hk8).2 (by decide) (by decide) ?_
  refine s_sipush (pc' := 36) X1.here hx (v := (255 : Int32)) (hb hby own_d2_33) rfl rfl ?_
  refine s_iand (pc' := 37) X1.here hx (hb hby own_d2_36) rfl ?_
  refine s_i2l (pc' := 38) X1.here hx (hb hby own_d2_37) rfl ?_
  obtain ⟨v0, hv0⟩ : ∃ z : Int64, z = (((bb 0) &&& (255 : Int32)).toInt64) := ⟨_, rfl⟩
  rw [← hv0]
  have bv0 : v0.toInt = (bb 0 &&& (255 : Int32)).toInt := by rw [hv0, c_i2l]
  have rv0 : 0 ≤ v0.toInt ∧ v0.toInt < 256 := hv0 ▸ own_rv (bb 0)
  refine s_lstore (pc' := 40) X1.here hx (l' := #[.val (.ref a), .val (.int o), .val (.ref rr), .val (.int (0 : Int32)), .val (.long v0), .second]) (hb hby own_d2_38) rfl rfl ?_
  refine s_aloadN (pc' := 41) X1.here hx (hb hby own_d2_40) rfl rfl rfl ?_
  refine s_iloadN (pc' := 42) X1.here hx (hb hby own_d2_41) rfl rfl ?_
  refine s_bipush (pc' := 44) X1.here hx (v := (51 : Int32)) (hb hby own_d2_42) rfl rfl ?_
  refine s_idiv (pc' := 45) X1.here hx (hb hby own_d2_44) (by decide) rfl ?_
  refine s_dup2 (pc' := 46) X1.here hx (hb hby own_d2_45) rfl rfl rfl ?_
  rw [show ((0 : Int32) / (51 : Int32)) = (0 : Int32) from by decide]
  refine s_laload (pc' := 47) (v := (.long (0 : Int64))) X1 hx hZ e1 V6 ⟨by decide, by decide⟩ rfl (hb hby own_d2_46) rfl ?_
  refine s_lload (pc' := 49) X1.here hx (hb hby own_d2_47) rfl rfl ?_
  refine s_iloadN (pc' := 50) X1.here hx (hb hby own_d2_49) rfl rfl ?_
  refine s_bipush (pc' := 52) X1.here hx (v := (51 : Int32)) (hb hby own_d2_50) rfl rfl ?_
  refine s_irem (pc' := 53) X1 hx (hb hby own_d2_52) (by decide) rfl ?_
  refine s_lshl (pc' := 54) X1.here hx (hb hby own_d2_53) rfl ?_
  refine s_ldcJ (pc' := 57) X1 hx hZ hown (hw _ (List.mem_of_getElem? (i := 10) rfl)) (hb hby own_d2_54) rfl ?_
  refine s_land (pc' := 58) X1.here hx (hb hby own_d2_57) rfl ?_
  refine s_lor (pc' := 59) X1.here hx (hb hby own_d2_58) rfl ?_
  rw [show ((0 : Int32) % (51 : Int32)) = (0 : Int32) from by decide]
  refine s_putJ (pc' := 60) X1 hx hZ e1 V6 ⟨by decide, by decide⟩ 0 rfl (Nat.le_of_ble_eq_true rfl) (hb hby own_d2_59) rfl fun T9 hp9 X9 e9 W9 Vw9 => ?_
  have V10 : Arv Z hp9 rr ka1 .long (5 : Int32) [(.long ((0 : Int64) ||| ((v0 <<< ((0 : Int32) &&& 0x3f).toInt64) &&& (2251799813685247 : Int64)))), (.long (0 : Int64)), (.long (0 : Int64)), (.long (0 : Int64)), (.long (0 : Int64))] (.long (0 : Int64)) := Vw9
  have N9 := Fr.snoc X9 N0 g_rr
  have f11 := f3.other W9 ne2
  have Z12 : n0 ≤ hp9.size := Nat.le_trans Z4 (Keep.of_wr W9).1
  have K13 : Keep h0 hp9 [] := K5.wr W9 (Or.inr sz_rr)
  have el0 := own_limb0 (0 : Int64) v0 ⟨by decide, by decide⟩ rv0
  obtain ⟨l0_0, hl0_0⟩ : ∃ y, y = ((0 : Int64) ||| ((v0 <<< ((0 : Int32) &&& 0x3f).toInt64) &&& (2251799813685247 : Int64))) := ⟨_, rfl⟩
  rw [← hl0_0] at V10 el0
  refine s_iloadN (pc' := 61) X9.here hx (hb hby own_d2_60) rfl rfl ?_
  refine s_bipush (pc' := 63) X9.here hx (v := (51 : Int32)) (hb hby own_d2_61) rfl rfl ?_
  refine s_irem (pc' := 64) X9 hx (hb hby own_d2_63) (by decide) rfl ?_
  refine s_bipush (pc' := 66) X9.here hx (v := (43 : Int32)) (hb hby own_d2_64) rfl rfl ?_
  rw [show ((0 : Int32) % (51 : Int32)) = (0 : Int32) from by decide]
  have hk14 : ¬ ((43 : Int32) < (0 : Int32)) := by decide
  refine s_icmpYes (pc' := 100) X9.here hx (hb hby own_d2_66) (flt hk14).2.2.2 (by decide) (by decide) ?_
  refine s_iinc (pc' := 103) X9.here hx (v := (8 : Int32)) (l' := #[.val (.ref a), .val (.int o), .val (.ref rr), .val (.int ((0 : Int32) + (8 : Int32))), .val (.long v0), .second]) (hb hby own_d2_100) rfl rfl rfl rfl ?_
  refine s_goto (pc' := 6) X9.here hx (hb hby own_d2_103) (by decide) (by decide) ?_
  rw [show ((0 : Int32) + (8 : Int32)) = (8 : Int32) from by decide]
  refine s_iloadN (pc' := 7) X9.here hx (hb hby own_d2_6) rfl rfl ?_
  refine s_sipush (pc' := 10) X9.here hx (v := (255 : Int32)) (hb hby own_d2_7) rfl rfl ?_
  have hk15 : (8 : Int32) < (255 : Int32) := by decide
  refine s_icmpNo (pc' := 13) X9.here hx (hb hby own_d2_10) (tlt hk15).2.1 rfl ?_
  refine s_aloadN (pc' := 14) X9.here hx (hb hby own_d2_13) rfl rfl rfl ?_
  refine s_iloadN (pc' := 15) X9.here hx (hb hby own_d2_14) rfl rfl ?_
  refine s_iloadN (pc' := 16) X9.here hx (hb hby own_d2_15) rfl rfl ?_
  refine s_bipush (pc' := 18) X9.here hx (v := (8 : Int32)) (hb hby own_d2_16) rfl rfl ?_
  refine s_idiv (pc' := 19) X9.here hx (hb hby own_d2_18) (by decide) rfl ?_
  refine s_iadd (pc' := 20) X9.here hx (hb hby own_d2_19) rfl ?_
  rw [show ((8 : Int32) / (8 : Int32)) = (1 : Int32) from by decide]
  refine s_baload (pc' := 21) (v := (.int (bb 1))) X9 hx hZ e9 f11 ⟨ix1.1, ix1.2.1⟩ (by rw [ix1.2.2]; exact hbj 1 (by decide)) (hb hby own_d2_20) rfl ?_
  refine s_iloadN (pc' := 22) X9.here hx (hb hby own_d2_21) rfl rfl ?_
  refine s_sipush (pc' := 25) X9.here hx (v := (248 : Int32)) (hb hby own_d2_22) rfl rfl ?_
  have hk16 : ¬ ((8 : Int32) = (248 : Int32)) := by decide
  refine s_icmpYes (pc' := 33) X9.here hx (hb hby own_d2_25) (feq hk16).2 (by decide) (by decide) ?_
  refine s_sipush (pc' := 36) X9.here hx (v := (255 : Int32)) (hb hby own_d2_33) rfl rfl ?_
  refine s_iand (pc' := 37) X9.here hx (hb hby own_d2_36) rfl ?_
  refine s_i2l (pc' := 38) X9.here hx (hb hby own_d2_37) rfl ?_
  obtain ⟨v1, hv1⟩ : ∃ z : Int64, z = (((bb 1) &&& (255 : Int32)).toInt64) := ⟨_, rfl⟩
  rw [← hv1]
  have bv1 : v1.toInt = (bb 1 &&& (255 : Int32)).toInt := by rw [hv1, c_i2l]
  have rv1 : 0 ≤ v1.toInt ∧ v1.toInt < 256 := hv1 ▸ own_rv (bb 1)
  refine s_lstore (pc' := 40) X9.here hx (l' := #[.val (.ref a), .val (.int o), .val (.ref rr), .val (.int (8 : Int32)), .val (.long v1), .second]) (hb hby own_d2_38) rfl rfl ?_
  refine s_aloadN (pc' := 41) X9.here hx (hb hby own_d2_40) rfl rfl rfl ?_
  refine s_iloadN (pc' := 42) X9.here hx (hb hby own_d2_41) rfl rfl ?_
  refine s_bipush (pc' := 44) X9.here hx (v := (51 : Int32)) (hb hby own_d2_42) rfl rfl ?_
  refine s_idiv (pc' := 45) X9.here hx (hb hby own_d2_44) (by decide) rfl ?_
  refine s_dup2 (pc' := 46) X9.here hx (hb hby own_d2_45) rfl rfl rfl ?_
  rw [show ((8 : Int32) / (51 : Int32)) = (0 : Int32) from by decide]
  refine s_laload (pc' := 47) (v := (.long l0_0)) X9 hx hZ e9 V10 ⟨by decide, by decide⟩ rfl (hb hby own_d2_46) rfl ?_
  refine s_lload (pc' := 49) X9.here hx (hb hby own_d2_47) rfl rfl ?_
  refine s_iloadN (pc' := 50) X9.here hx (hb hby own_d2_49) rfl rfl ?_
  refine s_bipush (pc' := 52) X9.here hx (v := (51 : Int32)) (hb hby own_d2_50) rfl rfl ?_
  refine s_irem (pc' := 53) X9 hx (hb hby own_d2_52) (by decide) rfl ?_
  refine s_lshl (pc' := 54) X9.here hx (hb hby own_d2_53) rfl ?_
  refine s_ldcJ (pc' := 57) X9 hx hZ hown (hw _ (List.mem_of_getElem? (i := 10) rfl)) (hb hby own_d2_54) rfl ?_
  refine s_land (pc' := 58) X9.here hx (hb hby own_d2_57) rfl ?_
  refine s_lor (pc' := 59) X9.here hx (hb hby own_d2_58) rfl ?_
  rw [show ((8 : Int32) % (51 : Int32)) = (8 : Int32) from by decide]
  refine s_putJ (pc' := 60) X9 hx hZ e9 V10 ⟨by decide, by decide⟩ 0 rfl (Nat.le_of_ble_eq_true rfl) (hb hby own_d2_59) rfl fun T17 hp17 X17 e17 W17 Vw17 => ?_
  have V18 : Arv Z hp17 rr ka1 .long (5 : Int32) [(.long (l0_0 ||| ((v1 <<< ((8 : Int32) &&& 0x3f).toInt64) &&& (2251799813685247 : Int64)))), (.long (0 : Int64)), (.long (0 : Int64)), (.long (0 : Int64)), (.long (0 : Int64))] (.long (0 : Int64)) := Vw17
  have N17 := Fr.snoc X17 N9 g_rr
  have f19 := f11.other W17 ne2
  have Z20 : n0 ≤ hp17.size := Nat.le_trans Z12 (Keep.of_wr W17).1
  have K21 : Keep h0 hp17 [] := K13.wr W17 (Or.inr sz_rr)
  have el1 := own_limb8 l0_0 v1 el0.2 rv1
  obtain ⟨l0_1, hl0_1⟩ : ∃ y, y = (l0_0 ||| ((v1 <<< ((8 : Int32) &&& 0x3f).toInt64) &&& (2251799813685247 : Int64))) := ⟨_, rfl⟩
  rw [← hl0_1] at V18 el1
  refine s_iloadN (pc' := 61) X17.here hx (hb hby own_d2_60) rfl rfl ?_
  refine s_bipush (pc' := 63) X17.here hx (v := (51 : Int32)) (hb hby own_d2_61) rfl rfl ?_
  refine s_irem (pc' := 64) X17 hx (hb hby own_d2_63) (by decide) rfl ?_
  refine s_bipush (pc' := 66) X17.here hx (v := (43 : Int32)) (hb hby own_d2_64) rfl rfl ?_
  rw [show ((8 : Int32) % (51 : Int32)) = (8 : Int32) from by decide]
  have hk22 : ¬ ((43 : Int32) < (8 : Int32)) := by decide
  refine s_icmpYes (pc' := 100) X17.here hx (hb hby own_d2_66) (flt hk22).2.2.2 (by decide) (by decide) ?_
  refine s_iinc (pc' := 103) X17.here hx (v := (8 : Int32)) (l' := #[.val (.ref a), .val (.int o), .val (.ref rr), .val (.int ((8 : Int32) + (8 : Int32))), .val (.long v1), .second]) (hb hby own_d2_100) rfl rfl rfl rfl ?_
  refine s_goto (pc' := 6) X17.here hx (hb hby own_d2_103) (by decide) (by decide) ?_
  rw [show ((8 : Int32) + (8 : Int32)) = (16 : Int32) from by decide]
  refine s_iloadN (pc' := 7) X17.here hx (hb hby own_d2_6) rfl rfl ?_
  refine s_sipush (pc' := 10) X17.here hx (v := (255 : Int32)) (hb hby own_d2_7) rfl rfl ?_
  have hk23 : (16 : Int32) < (255 : Int32) := by decide
  refine s_icmpNo (pc' := 13) X17.here hx (hb hby own_d2_10) (tlt hk23).2.1 rfl ?_
  refine s_aloadN (pc' := 14) X17.here hx (hb hby own_d2_13) rfl rfl rfl ?_
  refine s_iloadN (pc' := 15) X17.here hx (hb hby own_d2_14) rfl rfl ?_
  refine s_iloadN (pc' := 16) X17.here hx (hb hby own_d2_15) rfl rfl ?_
  refine s_bipush (pc' := 18) X17.here hx (v := (8 : Int32)) (hb hby own_d2_16) rfl rfl ?_
  refine s_idiv (pc' := 19) X17.here hx (hb hby own_d2_18) (by decide) rfl ?_
  refine s_iadd (pc' := 20) X17.here hx (hb hby own_d2_19) rfl ?_
  rw [show ((16 : Int32) / (8 : Int32)) = (2 : Int32) from by decide]
  refine s_baload (pc' := 21) (v := (.int (bb 2))) X17 hx hZ e17 f19 ⟨ix2.1, ix2.2.1⟩ (by rw [ix2.2.2]; exact hbj 2 (by decide)) (hb hby own_d2_20) rfl ?_
  refine s_iloadN (pc' := 22) X17.here hx (hb hby own_d2_21) rfl rfl ?_
  refine s_sipush (pc' := 25) X17.here hx (v := (248 : Int32)) (hb hby own_d2_22) rfl rfl ?_
  have hk24 : ¬ ((16 : Int32) = (248 : Int32)) := by decide
  refine s_icmpYes (pc' := 33) X17.here hx (hb hby own_d2_25) (feq hk24).2 (by decide) (by decide) ?_
  refine s_sipush (pc' := 36) X17.here hx (v := (255 : Int32)) (hb hby own_d2_33) rfl rfl ?_
  refine s_iand (pc' := 37) X17.here hx (hb hby own_d2_36) rfl ?_
  refine s_i2l (pc' := 38) X17.here hx (hb hby own_d2_37) rfl ?_
  obtain ⟨v2, hv2⟩ : ∃ z : Int64, z = (((bb 2) &&& (255 : Int32)).toInt64) := ⟨_, rfl⟩
  rw [← hv2]
  have bv2 : v2.toInt = (bb 2 &&& (255 : Int32)).toInt := by rw [hv2, c_i2l]
  have rv2 : 0 ≤ v2.toInt ∧ v2.toInt < 256 := hv2 ▸ own_rv (bb 2)
  refine s_lstore (pc' := 40) X17.here hx (l' := #[.val (.ref a), .val (.int o), .val (.ref rr), .val (.int (16 : Int32)), .val (.long v2), .second]) (hb hby own_d2_38) rfl rfl ?_
  refine s_aloadN (pc' := 41) X17.here hx (hb hby own_d2_40) rfl rfl rfl ?_
  refine s_iloadN (pc' := 42) X17.here hx (hb hby own_d2_41) rfl rfl ?_
  refine s_bipush (pc' := 44) X17.here hx (v := (51 : Int32)) (hb hby own_d2_42) rfl rfl ?_
  refine s_idiv (pc' := 45) X17.here hx (hb hby own_d2_44) (by decide) rfl ?_
  refine s_dup2 (pc' := 46) X17.here hx (hb hby own_d2_45) rfl rfl rfl ?_
  rw [show ((16 : Int32) / (51 : Int32)) = (0 : Int32) from by decide]
  refine s_laload (pc' := 47) (v := (.long l0_1)) X17 hx hZ e17 V18 ⟨by decide, by decide⟩ rfl (hb hby own_d2_46) rfl ?_
  refine s_lload (pc' := 49) X17.here hx (hb hby own_d2_47) rfl rfl ?_
  refine s_iloadN (pc' := 50) X17.here hx (hb hby own_d2_49) rfl rfl ?_
  refine s_bipush (pc' := 52) X17.here hx (v := (51 : Int32)) (hb hby own_d2_50) rfl rfl ?_
  refine s_irem (pc' := 53) X17 hx (hb hby own_d2_52) (by decide) rfl ?_
  refine s_lshl (pc' := 54) X17.here hx (hb hby own_d2_53) rfl ?_
  refine s_ldcJ (pc' := 57) X17 hx hZ hown (hw _ (List.mem_of_getElem? (i := 10) rfl)) (hb hby own_d2_54) rfl ?_
  refine s_land (pc' := 58) X17.here hx (hb hby own_d2_57) rfl ?_
  refine s_lor (pc' := 59) X17.here hx (hb hby own_d2_58) rfl ?_
  rw [show ((16 : Int32) % (51 : Int32)) = (16 : Int32) from by decide]
  refine s_putJ (pc' := 60) X17 hx hZ e17 V18 ⟨by decide, by decide⟩ 0 rfl (Nat.le_of_ble_eq_true rfl) (hb hby own_d2_59) rfl fun T25 hp25 X25 e25 W25 Vw25 => ?_
  have V26 : Arv Z hp25 rr ka1 .long (5 : Int32) [(.long (l0_1 ||| ((v2 <<< ((16 : Int32) &&& 0x3f).toInt64) &&& (2251799813685247 : Int64)))), (.long (0 : Int64)), (.long (0 : Int64)), (.long (0 : Int64)), (.long (0 : Int64))] (.long (0 : Int64)) := Vw25
  have N25 := Fr.snoc X25 N17 g_rr
  have f27 := f19.other W25 ne2
  have Z28 : n0 ≤ hp25.size := Nat.le_trans Z20 (Keep.of_wr W25).1
  have K29 : Keep h0 hp25 [] := K21.wr W25 (Or.inr sz_rr)
  have el2 := own_limb16 l0_1 v2 el1.2 rv2
  obtain ⟨l0_2, hl0_2⟩ : ∃ y, y = (l0_1 ||| ((v2 <<< ((16 : Int32) &&& 0x3f).toInt64) &&& (2251799813685247 : Int64))) := ⟨_, rfl⟩
  rw [← hl0_2] at V26 el2
  refine s_iloadN (pc' := 61) X25.here hx (hb hby own_d2_60) rfl rfl ?_
  refine s_bipush (pc' := 63) X25.here hx (v := (51 : Int32)) (hb hby own_d2_61) rfl rfl ?_
  refine s_irem (pc' := 64) X25 hx (hb hby own_d2_63) (by decide) rfl ?_
  refine s_bipush (pc' := 66) X25.here hx (v := (43 : Int32)) (hb hby own_d2_64) rfl rfl ?_
  rw [show ((16 : Int32) % (51 : Int32)) = (16 : Int32) from by decide]
  have hk30 : ¬ ((43 : Int32) < (16 : Int32)) := by decide
  refine s_icmpYes (pc' := 100) X25.here hx (hb hby own_d2_66) (flt hk30).2.2.2 (by decide) (by decide) ?_
  refine s_iinc (pc' := 103) X25.here hx (v := (8 : Int32)) (l' := #[.val (.ref a), .val (.int o), .val (.ref rr), .val (.int ((16 : Int32) + (8 : Int32))), .val (.long v2), .second]) (hb hby own_d2_100) rfl rfl rfl rfl ?_
  refine s_goto (pc' := 6) X25.here hx (hb hby own_d2_103) (by decide) (by decide) ?_
  rw [show ((16 : Int32) + (8 : Int32)) = (24 : Int32) from by decide]
  refine s_iloadN (pc' := 7) X25.here hx (hb hby own_d2_6) rfl rfl ?_
  refine s_sipush (pc' := 10) X25.here hx (v := (255 : Int32)) (hb hby own_d2_7) rfl rfl ?_
  have hk31 : (24 : Int32) < (255 : Int32) := by decide
  refine s_icmpNo (pc' := 13) X25.here hx (hb hby own_d2_10) (tlt hk31).2.1 rfl ?_
  refine s_aloadN (pc' := 14) X25.here hx (hb hby own_d2_13) rfl rfl rfl ?_
  refine s_iloadN (pc' := 15) X25.here hx (hb hby own_d2_14) rfl rfl ?_
  refine s_iloadN (pc' := 16) X25.here hx (hb hby own_d2_15) rfl rfl ?_
  refine s_bipush (pc' := 18) X25.here hx (v := (8 : Int32)) (hb hby own_d2_16) rfl rfl ?_
  refine s_idiv (pc' := 19) X25.here hx (hb hby own_d2_18) (by decide) rfl ?_
  refine s_iadd (pc' := 20) X25.here hx (hb hby own_d2_19) rfl ?_
  rw [show ((24 : Int32) / (8 : Int32)) = (3 : Int32) from by decide]
  refine s_baload (pc' := 21) (v := (.int (bb 3))) X25 hx hZ e25 f27 ⟨ix3.1, ix3.2.1⟩ (by rw [ix3.2.2]; exact hbj 3 (by decide)) (hb hby own_d2_20) rfl ?_
  refine s_iloadN (pc' := 22) X25.here hx (hb hby own_d2_21) rfl rfl ?_
  refine s_sipush (pc' := 25) X25.here hx (v := (248 : Int32)) (hb hby own_d2_22) rfl rfl ?_
  have hk32 : ¬ ((24 : Int32) = (248 : Int32)) := by decide
  refine s_icmpYes (pc' := 33) X25.here hx (hb hby own_d2_25) (feq hk32).2 (by decide) (by decide) ?_
  refine s_sipush (pc' := 36) X25.here hx (v := (255 : Int32)) (hb hby own_d2_33) rfl rfl ?_
  refine s_iand (pc' := 37) X25.here hx (hb hby own_d2_36) rfl ?_
  refine s_i2l (pc' := 38) X25.here hx (hb hby own_d2_37) rfl ?_
  obtain ⟨v3, hv3⟩ : ∃ z : Int64, z = (((bb 3) &&& (255 : Int32)).toInt64) := ⟨_, rfl⟩
  rw [← hv3]
  have bv3 : v3.toInt = (bb 3 &&& (255 : Int32)).toInt := by rw [hv3, c_i2l]
  have rv3 : 0 ≤ v3.toInt ∧ v3.toInt < 256 := hv3 ▸ own_rv (bb 3)
  refine s_lstore (pc' := 40) X25.here hx (l' := #[.val (.ref a), .val (.int o), .val (.ref rr), .val (.int (24 : Int32)), .val (.long v3), .second]) (hb hby own_d2_38) rfl rfl ?_
  refine s_aloadN (pc' := 41) X25.here hx (hb hby own_d2_40) rfl rfl rfl ?_
  refine s_iloadN (pc' := 42) X25.here hx (hb hby own_d2_41) rfl rfl ?_
  refine s_bipush (pc' := 44) X25.here hx (v := (51 : Int32)) (hb hby own_d2_42) rfl rfl ?_
  refine s_idiv (pc' := 45) X25.here hx (hb hby own_d2_44) (by decide) rfl ?_
  refine s_dup2 (pc' := 46) X25.here hx (hb hby own_d2_45) rfl rfl rfl ?_
  rw [show ((24 : Int32) / (51 : Int32)) = (0 : Int32) from by decide]
  refine s_laload (pc' := 47) (v := (.long l0_2)) X25 hx hZ e25 V26 ⟨by decide, by decide⟩ rfl (hb hby own_d2_46) rfl ?_
  refine s_lload (pc' := 49) X25.here hx (hb hby own_d2_47) rfl rfl ?_
  refine s_iloadN (pc' := 50) X25.here hx (hb hby own_d2_49) rfl rfl ?_
  refine s_bipush (pc' := 52) X25.here hx (v := (51 : Int32)) (hb hby own_d2_50) rfl rfl ?_
  refine s_irem (pc' := 53) X25 hx (hb hby own_d2_52) (by decide) rfl ?_
  refine s_lshl (pc' := 54) X25.here hx (hb hby own_d2_53) rfl ?_
  refine s_ldcJ (pc' := 57) X25 hx hZ hown (hw _ (List.mem_of_getElem? (i := 10) rfl)) (hb hby own_d2_54) rfl ?_
  refine s_land (pc' := 58) X25.here hx (hb hby own_d2_57) rfl ?_
  refine s_lor (pc' := 59) X25.here hx (hb hby own_d2_58) rfl ?_
  rw [show ((24 : Int32) % (51 : Int32)) = (24 : Int32) from by decide]
  refine s_putJ (pc' := 60) X25 hx hZ e25 V26 ⟨by decide, by decide⟩ 0 rfl (Nat.le_of_ble_eq_true rfl) (hb hby own_d2_59) rfl fun T33 hp33 X33 e33 W33 Vw33 => ?_
  have V34 : Arv Z hp33 rr ka1 .long (5 : Int32) [(.long (l0_2 ||| ((v3 <<< ((24 : Int32) &&& 0x3f).toInt64) &&& (2251799813685247 : Int64)))), (.long (0 : Int64)), (.long (0 : Int64)), (.long (0 : Int64)), (.long (0 : Int64))] (.long (0 : Int64)) := Vw33
  have N33 := Fr.snoc X33 N25 g_rr
  have f35 := f27.other W33 ne2
  have Z36 : n0 ≤ hp33.size := Nat.le_trans Z28 (Keep.of_wr W33).1
  have K37 : Keep h0 hp33 [] := K29.wr W33 (Or.inr sz_rr)
  have el3 := own_limb24 l0_2 v3 el2.2 rv3
  obtain ⟨l0_3, hl0_3⟩ : ∃ y, y = (l0_2 ||| ((v3 <<< ((24 : Int32) &&& 0x3f).toInt64) &&& (2251799813685247 : Int64))) := ⟨_, rfl⟩
  rw [← hl0_3] at V34 el3
  refine s_iloadN (pc' := 61) X33.here hx (hb hby own_d2_60) rfl rfl ?_
  refine s_bipush (pc' := 63) X33.here hx (v := (51 : Int32)) (hb hby own_d2_61) rfl rfl ?_
  refine s_irem (pc' := 64) X33 hx (hb hby own_d2_63) (by decide) rfl ?_
  refine s_bipush (pc' := 66) X33.here hx (v := (43 : Int32)) (hb hby own_d2_64) rfl rfl ?_
  rw [show ((24 : Int32) % (51 : Int32)) = (24 : Int32) from by decide]
  have hk38 : ¬ ((43 : Int32) < (24 : Int32)) := by decide
  refine s_icmpYes (pc' := 100) X33.here hx (hb hby own_d2_66) (flt hk38).2.2.2 (by decide) (by decide) ?_
  refine s_iinc (pc' := 103) X33.here hx (v := (8 : Int32)) (l' := #[.val (.ref a), .val (.int o), .val (.ref rr), .val (.int ((24 : Int32) + (8 : Int32))), .val (.long v3), .second]) (hb hby own_d2_100) rfl rfl rfl rfl ?_
  refine s_goto (pc' := 6) X33.here hx (hb hby own_d2_103) (by decide) (by decide) ?_
  rw [show ((24 : Int32) + (8 : Int32)) = (32 : Int32) from by decide]
  refine s_iloadN (pc' := 7) X33.here hx (hb hby own_d2_6) rfl rfl ?_
  refine s_sipush (pc' := 10) X33.here hx (v := (255 : Int32)) (hb hby own_d2_7) rfl rfl ?_
  have hk39 : (32 : Int32) < (255 : Int32) := by decide
  refine s_icmpNo (pc' := 13) X33.here hx (hb hby own_d2_10) (tlt hk39).2.1 rfl ?_
  refine s_aloadN (pc' := 14) X33.here hx (hb hby own_d2_13) rfl rfl rfl ?_
  refine s_iloadN (pc' := 15) X33.here hx (hb hby own_d2_14) rfl rfl ?_
  refine s_iloadN (pc' := 16) X33.here hx (hb hby own_d2_15) rfl rfl ?_
  refine s_bipush (pc' := 18) X33.here hx (v := (8 : Int32)) (hb hby own_d2_16) rfl rfl ?_
  refine s_idiv (pc' := 19) X33.here hx (hb hby own_d2_18) (by decide) rfl ?_
  refine s_iadd (pc' := 20) X33.here hx (hb hby own_d2_19) rfl ?_
  rw [show ((32 : Int32) / (8 : Int32)) = (4 : Int32) from by decide]
  refine s_baload (pc' := 21) (v := (.int (bb 4))) X33 hx hZ e33 f35 ⟨ix4.1, ix4.2.1⟩ (by rw [ix4.2.2]; exact hbj 4 (by decide)) (hb hby own_d2_20) rfl ?_
  refine s_iloadN (pc' := 22) X33.here hx (hb hby own_d2_21) rfl rfl ?_
  refine s_sipush (pc' := 25) X33.here hx (v := (248 : Int32)) (hb hby own_d2_22) rfl rfl ?_
  have hk40 : ¬ ((32 : Int32) = (248 : Int32)) := by decide
  refine s_icmpYes (pc' := 33) X33.here hx (hb hby own_d2_25) (feq hk40).2 (by decide) (by decide) ?_
  refine s_sipush (pc' := 36) X33.here hx (v := (255 : Int32)) (hb hby own_d2_33) rfl rfl ?_
  refine s_iand (pc' := 37) X33.here hx (hb hby own_d2_36) rfl ?_
  refine s_i2l (pc' := 38) X33.here hx (hb hby own_d2_37) rfl ?_
  obtain ⟨v4, hv4⟩ : ∃ z : Int64, z = (((bb 4) &&& (255 : Int32)).toInt64) := ⟨_, rfl⟩
  rw [← hv4]
  have bv4 : v4.toInt = (bb 4 &&& (255 : Int32)).toInt := by rw [hv4, c_i2l]
  have rv4 : 0 ≤ v4.toInt ∧ v4.toInt < 256 := hv4 ▸ own_rv (bb 4)
  refine s_lstore (pc' := 40) X33.here hx (l' := #[.val (.ref a), .val (.int o), .val (.ref rr), .val (.int (32 : Int32)), .val (.long v4), .second]) (hb hby own_d2_38) rfl rfl ?_
  refine s_aloadN (pc' := 41) X33.here hx (hb hby own_d2_40) rfl rfl rfl ?_
  refine s_iloadN (pc' := 42) X33.here hx (hb hby own_d2_41) rfl rfl ?_
  refine s_bipush (pc' := 44) X33.here hx (v := (51 : Int32)) (hb hby own_d2_42) rfl rfl ?_
  refine s_idiv (pc' := 45) X33.here hx (hb hby own_d2_44) (by decide) rfl ?_
  refine s_dup2 (pc' := 46) X33.here hx (hb hby own_d2_45) rfl rfl rfl ?_
  rw [show ((32 : Int32) / (51 : Int32)) = (0 : Int32) from by decide]
  refine s_laload (pc' := 47) (v := (.long l0_3)) X33 hx hZ e33 V34 ⟨by decide, by decide⟩ rfl (hb hby own_d2_46) rfl ?_
  refine s_lload (pc' := 49) X33.here hx (hb hby own_d2_47) rfl rfl ?_
  refine s_iloadN (pc' := 50) X33.here hx (hb hby own_d2_49) rfl rfl ?_
  refine s_bipush (pc' := 52) X33.here hx (v := (51 : Int32)) (hb hby own_d2_50) rfl rfl ?_
  refine s_irem (pc' := 53) X33 hx (hb hby own_d2_52) (by decide) rfl ?_
  refine s_lshl (pc' := 54) X33.here hx (hb hby own_d2_53) rfl ?_
  refine s_ldcJ (pc' := 57) X33 hx hZ hown (hw _ (List.mem_of_getElem? (i := 10) rfl)) (hb hby own_d2_54) rfl ?_
  refine s_land (pc' := 58) X33.here hx (hb hby own_d2_57) rfl ?_
  refine s_lor (pc' := 59) X33.here hx (hb hby own_d2_58) rfl ?_
  rw [show ((32 : Int32) % (51 : Int32)) = (32 : Int32) from by decide]
  refine s_putJ (pc' := 60) X33 hx hZ e33 V34 ⟨by decide, by decide⟩ 0 rfl (Nat.le_of_ble_eq_true rfl) (hb hby own_d2_59) rfl fun T41 hp41 X41 e41 W41 Vw41 => ?_
  have V42 : Arv Z hp41 rr ka1 .long (5 : Int32) [(.long (l0_3 ||| ((v4 <<< ((32 : Int32) &&& 0x3f).toInt64) &&& (2251799813685247 : Int64)))), (.long (0 : Int64)), (.long (0 : Int64)), (.long (0 : Int64)), (.long (0 : Int64))] (.long (0 : Int64)) := Vw41
  have N41 := Fr.snoc X41 N33 g_rr
  have f43 := f35.other W41 ne2
  have Z44 : n0 ≤ hp41.size := Nat.le_trans Z36 (Keep.of_wr W41).1
  have K45 : Keep h0 hp41 [] := K37.wr W41 (Or.inr sz_rr)
  have el4 := own_limb32 l0_3 v4 el3.2 rv4
  obtain ⟨l0_4, hl0_4⟩ : ∃ y, y = (l0_3 ||| ((v4 <<< ((32 : Int32) &&& 0x3f).toInt64) &&& (2251799813685247 : Int64))) := ⟨_, rfl⟩
  rw [← hl0_4] at V42 el4
  refine s_iloadN (pc' := 61) X41.here hx (hb hby own_d2_60) rfl rfl ?_
  refine s_bipush (pc' := 63) X41.here hx (v := (51 : Int32)) (hb hby own_d2_61) rfl rfl ?_
  refine s_irem (pc' := 64) X41 hx (hb hby own_d2_63) (by decide) rfl ?_
  refine s_bipush (pc' := 66) X41.here hx (v := (43 : Int32)) (hb hby own_d2_64) rfl rfl ?_
  rw [show ((32 : Int32) % (51 : Int32)) = (32 : Int32) from by decide]
  have hk46 : ¬ ((43 : Int32) < (32 : Int32)) := by decide
  refine s_icmpYes (pc' := 100) X41.here hx (hb hby own_d2_66) (flt hk46).2.2.2 (by decide) (by decide) ?_
  refine s_iinc (pc' := 103) X41.here hx (v := (8 : Int32)) (l' := #[.val (.ref a), .val (.int o), .val (.ref rr), .val (.int ((32 : Int32) + (8 : Int32))), .val (.long v4), .second]) (hb hby own_d2_100) rfl rfl rfl rfl ?_
  refine s_goto (pc' := 6) X41.here hx (hb hby own_d2_103) (by decide) (by decide) ?_
  rw [show ((32 : Int32) + (8 : Int32)) = (40 : Int32) from by decide]
  refine s_iloadN (pc' := 7) X41.here hx (hb hby own_d2_6) rfl rfl ?_
  refine s_sipush (pc' := 10) X41.here hx (v := (255 : Int32)) (hb hby own_d2_7) rfl rfl ?_
  have hk47 : (40 : Int32) < (255 : Int32) := by decide
  refine s_icmpNo (pc' := 13) X41.here hx (hb hby own_d2_10) (tlt hk47).2.1 rfl ?_
  refine s_aloadN (pc' := 14) X41.here hx (hb hby own_d2_13) rfl rfl rfl ?_
  refine s_iloadN (pc' := 15) X41.here hx (hb hby own_d2_14) rfl rfl ?_
  refine s_iloadN (pc' := 16) X41.here hx (hb hby own_d2_15) rfl rfl ?_
  refine s_bipush (pc' := 18) X41.here hx (v := (8 : Int32)) (hb hby own_d2_16) rfl rfl ?_
  refine s_idiv (pc' := 19) X41.here hx (hb hby own_d2_18) (by decide) rfl ?_
  refine s_iadd (pc' := 20) X41.here hx (hb hby own_d2_19) rfl ?_
  rw [show ((40 : Int32) / (8 : Int32)) = (5 : Int32) from by decide]
  refine s_baload (pc' := 21) (v := (.int (bb 5))) X41 hx hZ e41 f43 ⟨ix5.1, ix5.2.1⟩ (by rw [ix5.2.2]; exact hbj 5 (by decide)) (hb hby own_d2_20) rfl ?_
  refine s_iloadN (pc' := 22) X41.here hx (hb hby own_d2_21) rfl rfl ?_
  refine s_sipush (pc' := 25) X41.here hx (v := (248 : Int32)) (hb hby own_d2_22) rfl rfl ?_
  have hk48 : ¬ ((40 : Int32) = (248 : Int32)) := by decide
  refine s_icmpYes (pc' := 33) X41.here hx (hb hby own_d2_25) (feq hk48).2 (by decide) (by decide) ?_
  refine s_sipush (pc' := 36) X41.here hx (v := (255 : Int32)) (hb hby own_d2_33) rfl rfl ?_
  refine s_iand (pc' := 37) X41.here hx (hb hby own_d2_36) rfl ?_
  refine s_i2l (pc' := 38) X41.here hx (hb hby own_d2_37) rfl ?_
  obtain ⟨v5, hv5⟩ : ∃ z : Int64, z = (((bb 5) &&& (255 : Int32)).toInt64) := ⟨_, rfl⟩
  rw [← hv5]
  have bv5 : v5.toInt = (bb 5 &&& (255 : Int32)).toInt := by rw [hv5, c_i2l]
  have rv5 : 0 ≤ v5.toInt ∧ v5.toInt < 256 := hv5 ▸ own_rv (bb 5)
  refine s_lstore (pc' := 40) X41.here hx (l' := #[.val (.ref a), .val (.int o), .val (.ref rr), .val (.int (40 : Int32)), .val (.long v5), .second]) (hb hby own_d2_38) rfl rfl ?_
  refine s_aloadN (pc' := 41) X41.here hx (hb hby own_d2_40) rfl rfl rfl ?_
  refine s_iloadN (pc' := 42) X41.here hx (hb hby own_d2_41) rfl rfl ?_
  refine s_bipush (pc' := 44) X41.here hx (v := (51 : Int32)) (hb hby own_d2_42) rfl rfl ?_
  refine s_idiv (pc' := 45) X41.here hx (hb hby own_d2_44) (by decide) rfl ?_
  refine s_dup2 (pc' := 46) X41.here hx (hb hby own_d2_45) rfl rfl rfl ?_
  rw [show ((40 : Int32) / (51 : Int32)) = (0 : Int32) from by decide]
  refine s_laload (pc' := 47) (v := (.long l0_4)) X41 hx hZ e41 V42 ⟨by decide, by decide⟩ rfl (hb hby own_d2_46) rfl ?_
  refine s_lload (pc' := 49) X41.here hx (hb hby own_d2_47) rfl rfl ?_
  refine s_iloadN (pc' := 50) X41.here hx (hb hby own_d2_49) rfl rfl ?_
  refine s_bipush (pc' := 52) X41.here hx (v := (51 : Int32)) (hb hby own_d2_50) rfl rfl ?_
  refine s_irem (pc' := 53) X41 hx (hb hby own_d2_52) (by decide) rfl ?_
  refine s_lshl (pc' := 54) X41.here hx (hb hby own_d2_53) rfl ?_
  refine s_ldcJ (pc' := 57) X41 hx hZ hown (hw _ (List.mem_of_getElem? (i := 10) rfl)) (hb hby own_d2_54) rfl ?_
  refine s_land (pc' := 58) X41.here hx (hb hby own_d2_57) rfl ?_
  refine s_lor (pc' := 59) X41.here hx (hb hby own_d2_58) rfl ?_
  rw [show ((40 : Int32) % (51 : Int32)) = (40 : Int32) from by decide]
  refine s_putJ (pc' := 60) X41 hx hZ e41 V42 ⟨by decide, by decide⟩ 0 rfl (Nat.le_of_ble_eq_true rfl) (hb hby own_d2_59) rfl fun T49 hp49 X49 e49 W49 Vw49 => ?_
  have V50 : Arv Z hp49 rr ka1 .long (5 : Int32) [(.long (l0_4 ||| ((v5 <<< ((40 : Int32) &&& 0x3f).toInt64) &&& (2251799813685247 : Int64)))), (.long (0 : Int64)), (.long (0 : Int64)), (.long (0 : Int64)), (.long (0 : Int64))] (.long (0 : Int64)) := Vw49
  have N49 := Fr.snoc X49 N41 g_rr
  have f51 := f43.other W49 ne2
  have Z52 : n0 ≤ hp49.size := Nat.le_trans Z44 (Keep.of_wr W49).1
  have K53 : Keep h0 hp49 [] := K45.wr W49 (Or.inr sz_rr)
  have el5 := own_limb40 l0_4 v5 el4.2 rv5
  obtain ⟨l0_5, hl0_5⟩ : ∃ y, y = (l0_4 ||| ((v5 <<< ((40 : Int32) &&& 0x3f).toInt64) &&& (2251799813685247 : Int64))) := ⟨_, rfl⟩
  rw [← hl0_5] at V50 el5
  refine s_iloadN (pc' := 61) X49.here hx (hb hby own_d2_60) rfl rfl ?_
  refine s_bipush (pc' := 63) X49.here hx (v := (51 : Int32)) (hb hby own_d2_61) rfl rfl ?_
  refine s_irem (pc' := 64) X49 hx (hb hby own_d2_63) (by decide) rfl ?_
  refine s_bipush (pc' := 66) X49.here hx (v := (43 : Int32)) (hb hby own_d2_64) rfl rfl ?_
  rw [show ((40 : Int32) % (51 : Int32)) = (40 : Int32) from by decide]
  have hk54 : ¬ ((43 : Int32) < (40 : Int32)) := by decide
  refine s_icmpYes (pc' := 100) X49.here hx (hb hby own_d2_66) (flt hk54).2.2.2 (by decide) (by decide) ?_
  refine s_iinc (pc' := 103) X49.here hx (v := (8 : Int32)) (l' := #[.val (.ref a), .val (.int o), .val (.ref rr), .val (.int ((40 : Int32) + (8 : Int32))), .val (.long v5), .second]) (hb hby own_d2_100) rfl rfl rfl rfl ?_
  refine s_goto (pc' := 6) X49.here hx (hb hby own_d2_103) (by decide) (by decide) ?_
  rw [show ((40 : Int32) + (8 : Int32)) = (48 : Int32) from by decide]
  refine s_iloadN (pc' := 7) X49.here hx (hb hby own_d2_6) rfl rfl ?_
  refine s_sipush (pc' := 10) X49.here hx (v := (255 : Int32)) (hb hby own_d2_7) rfl rfl ?_
  have hk55 : (48 : Int32) < (255 : Int32) := by decide
  refine s_icmpNo (pc' := 13) X49.here hx (hb hby own_d2_10) (tlt hk55).2.1 rfl ?_
  refine s_aloadN (pc' := 14) X49.here hx (hb hby own_d2_13) rfl rfl rfl ?_
  refine s_iloadN (pc' := 15) X49.here hx (hb hby own_d2_14) rfl rfl ?_
  refine s_iloadN (pc' := 16) X49.here hx (hb hby own_d2_15) rfl rfl ?_
  refine s_bipush (pc' := 18) X49.here hx (v := (8 : Int32)) (hb hby own_d2_16) rfl rfl ?_
  refine s_idiv (pc' := 19) X49.here hx (hb hby own_d2_18) (by decide) rfl ?_
  refine s_iadd (pc' := 20) X49.here hx (hb hby own_d2_19) rfl ?_
  rw [show ((48 : Int32) / (8 : Int32)) = (6 : Int32) from by decide]
  refine s_baload (pc' := 21) (v := (.int (bb 6))) X49 hx hZ e49 f51 ⟨ix6.1, ix6.2.1⟩ (by rw [ix6.2.2]; exact hbj 6 (by decide)) (hb hby own_d2_20) rfl ?_
  refine s_iloadN (pc' := 22) X49.here hx (hb hby own_d2_21) rfl rfl ?_
  refine s_sipush (pc' := 25) X49.here hx (v := (248 : Int32)) (hb hby own_d2_22) rfl rfl ?_
  have hk56 : ¬ ((48 : Int32) = (248 : Int32)) := by decide
  refine s_icmpYes (pc' := 33) X49.here hx (hb hby own_d2_25) (feq hk56).2 (by decide) (by decide) ?_
  refine s_sipush (pc' := 36) X49.here hx (v := (255 : Int32)) (hb hby own_d2_33) rfl rfl ?_
  refine s_iand (pc' := 37) X49.here hx (hb hby own_d2_36) rfl ?_
  refine s_i2l (pc' := 38) X49.here hx (hb hby own_d2_37) rfl ?_
  obtain ⟨v6, hv6⟩ : ∃ z : Int64, z = (((bb 6) &&& (255 : Int32)).toInt64) := ⟨_, rfl⟩
  rw [← hv6]
  have bv6 : v6.toInt = (bb 6 &&& (255 : Int32)).toInt := by rw [hv6, c_i2l]
  have rv6 : 0 ≤ v6.toInt ∧ v6.toInt < 256 := hv6 ▸ own_rv (bb 6)
  refine s_lstore (pc' := 40) X49.here hx (l' := #[.val (.ref a), .val (.int o), .val (.ref rr), .val (.int (48 : Int32)), .val (.long v6), .second]) (hb hby own_d2_38) rfl rfl ?_
  refine s_aloadN (pc' := 41) X49.here hx (hb hby own_d2_40) rfl rfl rfl ?_
  refine s_iloadN (pc' := 42) X49.here hx (hb hby own_d2_41) rfl rfl ?_
  refine s_bipush (pc' := 44) X49.here hx (v := (51 : Int32)) (hb hby own_d2_42) rfl rfl ?_
  refine s_idiv (pc' := 45) X49.here hx (hb hby own_d2_44) (by decide) rfl ?_
  refine s_dup2 (pc' := 46) X49.here hx (hb hby own_d2_45) rfl rfl rfl ?_
  rw [show ((48 : Int32) / (51 : Int32)) = (0 : Int32) from by decide]
  refine s_laload (pc' := 47) (v := (.long l0_5)) X49 hx hZ e49 V50 ⟨by decide, by decide⟩ rfl (hb hby own_d2_46) rfl ?_
  refine s_lload (pc' := 49) X49.here hx (hb hby own_d2_47) rfl rfl ?_
  refine s_iloadN (pc' := 50) X49.here hx (hb hby own_d2_49) rfl rfl ?_
  refine s_bipush (pc' := 52) X49.here hx (v := (51 : Int32)) (hb hby own_d2_50) rfl rfl ?_
  refine s_irem (pc' := 53) X49 hx (hb hby own_d2_52) (by decide) rfl ?_
  refine s_lshl (pc' := 54) X49.here hx (hb hby own_d2_53) rfl ?_
  refine s_ldcJ (pc' := 57) X49 hx hZ hown (hw _ (List.mem_of_getElem? (i := 10) rfl)) (hb hby own_d2_54) rfl ?_
  refine s_land (pc' := 58) X49.here hx (hb hby own_d2_57) rfl ?_
  refine s_lor (pc' := 59) X49.here hx (hb hby own_d2_58) rfl ?_
  rw [show ((48 : Int32) % (51 : Int32)) = (48 : Int32) from by decide]
  refine s_putJ (pc' := 60) X49 hx hZ e49 V50 ⟨by decide, by decide⟩ 0 rfl (Nat.le_of_ble_eq_true rfl) (hb hby own_d2_59) rfl fun T57 hp57 X57 e57 W57 Vw57 => ?_
  have V58 : Arv Z hp57 rr ka1 .long (5 : Int32) [(.long (l0_5 ||| ((v6 <<< ((48 : Int32) &&& 0x3f).toInt64) &&& (2251799813685247 : Int64)))), (.long (0 : Int64)), (.long (0 : Int64)), (.long (0 : Int64)), (.long (0 : Int64))] (.long (0 : Int64)) := Vw57
  have N57 := Fr.snoc X57 N49 g_rr
  have f59 := f51.other W57 ne2
  have Z60 : n0 ≤ hp57.size := Nat.le_trans Z52 (Keep.of_wr W57).1
  have K61 : Keep h0 hp57 [] := K53.wr W57 (Or.inr sz_rr)
  have el6 := own_limb48 l0_5 v6 el5.2 rv6
  obtain ⟨l0_6, hl0_6⟩ : ∃ y, y = (l0_5 ||| ((v6 <<< ((48 : Int32) &&& 0x3f).toInt64) &&& (2251799813685247 : Int64))) := ⟨_, rfl⟩
  rw [← hl0_6] at V58 el6
  refine s_iloadN (pc' := 61) X57.here hx (hb hby own_d2_60) rfl rfl ?_
  refine s_bipush (pc' := 63) X57.here hx (v := (51 : Int32)) (hb hby own_d2_61) rfl rfl ?_
  refine s_irem (pc' := 64) X57 hx (hb hby own_d2_63) (by decide) rfl ?_
  refine s_bipush (pc' := 66) X57.here hx (v := (43 : Int32)) (hb hby own_d2_64) rfl rfl ?_
  rw [show ((48 : Int32) % (51 : Int32)) = (48 : Int32) from by decide]
  have hk62 : (43 : Int32) < (48 : Int32) := by decide
  refine s_icmpNo (pc' := 69) X57.here hx (hb hby own_d2_66) (tlt hk62).2.2.2 rfl ?_
  refine s_iloadN (pc' := 70) X57.here hx (hb hby own_d2_69) rfl rfl ?_
  refine s_bipush (pc' := 72) X57.here hx (v := (51 : Int32)) (hb hby own_d2_70) rfl rfl ?_
  refine s_idiv (pc' := 73) X57.here hx (hb hby own_d2_72) (by decide) rfl ?_
  refine s_iconst (pc' := 74) X57.here hx (v := (1 : Int32)) (hb hby own_d2_73) rfl rfl ?_
  refine s_iadd (pc' := 75) X57.here hx (hb hby own_d2_74) rfl ?_
  refine s_iconst (pc' := 76) X57.here hx (v := (5 : Int32)) (hb hby own_d2_75) rfl rfl ?_
  rw [show (((48 : Int32) / (51 : Int32)) + (1 : Int32)) = (1 : Int32) from by decide]
  have hk63 : (1 : Int32) < (5 : Int32) := by decide
  refine s_icmpNo (pc' := 79) X57.here hx (hb hby own_d2_76) (tlt hk63).2.1 rfl ?_
  refine s_aloadN (pc' := 80) X57.here hx (hb hby own_d2_79) rfl rfl rfl ?_
  refine s_iloadN (pc' := 81) X57.here hx (hb hby own_d2_80) rfl rfl ?_
  refine s_bipush (pc' := 83) X57.here hx (v := (51 : Int32)) (hb hby own_d2_81) rfl rfl ?_
  refine s_idiv (pc' := 84) X57.here hx (hb hby own_d2_83) (by decide) rfl ?_
  refine s_iconst (pc' := 85) X57.here hx (v := (1 : Int32)) (hb hby own_d2_84) rfl rfl ?_
  refine s_iadd (pc' := 86) X57.here hx (hb hby own_d2_85) rfl ?_
  refine s_dup2 (pc' := 87) X57.here hx (hb hby own_d2_86) rfl rfl rfl ?_
  rw [show (((48 : Int32) / (51 : Int32)) + (1 : Int32)) = (1 : Int32) from by decide]
  refine s_laload (pc' := 88) (v := (.long (0 : Int64))) X57 hx hZ e57 V58 ⟨by decide, by decide⟩ rfl (hb hby own_d2_87) rfl ?_
  refine s_lload (pc' := 90) X57.here hx (hb hby own_d2_88) rfl rfl ?_
  refine s_bipush (pc' := 92) X57.here hx (v := (51 : Int32)) (hb hby own_d2_90) rfl rfl ?_
  refine s_iloadN (pc' := 93) X57.here hx (hb hby own_d2_92) rfl rfl ?_
  refine s_bipush (pc' := 95) X57.here hx (v := (51 : Int32)) (hb hby own_d2_93) rfl rfl ?_
  refine s_irem (pc' := 96) X57 hx (hb hby own_d2_95) (by decide) rfl ?_
  refine s_isub (pc' := 97) X57.here hx (hb hby own_d2_96) rfl ?_
  refine s_lushr (pc' := 98) X57.here hx (hb hby own_d2_97) rfl ?_
  refine s_lor (pc' := 99) X57.here hx (hb hby own_d2_98) rfl ?_
  rw [show ((51 : Int32) - ((48 : Int32) % (51 : Int32))) = (3 : Int32) from by decide]
  refine s_putJ (pc' := 100) X57 hx hZ e57 V58 ⟨by decide, by decide⟩ 1 rfl (Nat.le_of_ble_eq_true rfl) (hb hby own_d2_99) rfl fun T64 hp64 X64 e64 W64 Vw64 => ?_
  have V65 : Arv Z hp64 rr ka1 .long (5 : Int32) [(.long l0_6), (.long ((0 : Int64) ||| ((v6.toUInt64 >>> ((3 : Int32) &&& 0x3f).toInt64.toUInt64).toInt64))), (.long (0 : Int64)), (.long (0 : Int64)), (.long (0 : Int64))] (.long (0 : Int64)) := Vw64
  have N64 := Fr.snoc X64 N57 g_rr
  have f66 := f59.other W64 ne2
  have Z67 : n0 ≤ hp64.size := Nat.le_trans Z60 (Keep.of_wr W64).1
  have K68 : Keep h0 hp64 [] := K61.wr W64 (Or.inr sz_rr)
  have eo6 := own_over3 v6 rv6
  obtain ⟨l1_6o, hl1_6o⟩ : ∃ y, y = ((0 : Int64) ||| ((v6.toUInt64 >>> ((3 : Int32) &&& 0x3f).toInt64.toUInt64).toInt64)) := ⟨_, rfl⟩
  rw [← hl1_6o] at V65 eo6
  refine s_iinc (pc' := 103) X64.here hx (v := (8 : Int32)) (l' := #[.val (.ref a), .val (.int o), .val (.ref rr), .val (.int ((48 : Int32) + (8 : Int32))), .val (.long v6), .second]) (hb hby own_d2_100) rfl rfl rfl rfl ?_
  refine s_goto (pc' := 6) X64.here hx (hb hby own_d2_103) (by decide) (by decide) ?_
  rw [show ((48 : Int32) + (8 : Int32)) = (56 : Int32) from by decide]
  refine s_iloadN (pc' := 7) X64.here hx (hb hby own_d2_6) rfl rfl ?_
  refine s_sipush (pc' := 10) X64.here hx (v := (255 : Int32)) (hb hby own_d2_7) rfl rfl ?_
  have hk69 : (56 : Int32) < (255 : Int32) := by decide
  refine s_icmpNo (pc' := 13) X64.here hx (hb hby own_d2_10) (tlt hk69).2.1 rfl ?_
  refine s_aloadN (pc' := 14) X64.here hx (hb hby own_d2_13) rfl rfl rfl ?_
  refine s_iloadN (pc' := 15) X64.here hx (hb hby own_d2_14) rfl rfl ?_
  refine s_iloadN (pc' := 16) X64.here hx (hb hby own_d2_15) rfl rfl ?_
  refine s_bipush (pc' := 18) X64.here hx (v := (8 : Int32)) (hb hby own_d2_16) rfl rfl ?_
  refine s_idiv (pc' := 19) X64.here hx (hb hby own_d2_18) (by decide) rfl ?_
  refine s_iadd (pc' := 20) X64.here hx (hb hby own_d2_19) rfl ?_
  rw [show ((56 : Int32) / (8 : Int32)) = (7 : Int32) from by decide]
  refine s_baload (pc' := 21) (v := (.int (bb 7))) X64 hx hZ e64 f66 ⟨ix7.1, ix7.2.1⟩ (by rw [ix7.2.2]; exact hbj 7 (by decide)) (hb hby own_d2_20) rfl ?_
  refine s_iloadN (pc' := 22) X64.here hx (hb hby own_d2_21) rfl rfl ?_
  refine s_sipush (pc' := 25) X64.here hx (v := (248 : Int32)) (hb hby own_d2_22) rfl rfl ?_
  have hk70 : ¬ ((56 : Int32) = (248 : Int32)) := by decide
  refine s_icmpYes (pc' := 33) X64.here hx (hb hby own_d2_25) (feq hk70).2 (by decide) (by decide) ?_
  refine s_sipush (pc' := 36) X64.here hx (v := (255 : Int32)) (hb hby own_d2_33) rfl rfl ?_
  refine s_iand (pc' := 37) X64.here hx (hb hby own_d2_36) rfl ?_
  refine s_i2l (pc' := 38) X64.here hx (hb hby own_d2_37) rfl ?_
  obtain ⟨v7, hv7⟩ : ∃ z : Int64, z = (((bb 7) &&& (255 : Int32)).toInt64) := ⟨_, rfl⟩
  rw [← hv7]
  have bv7 : v7.toInt = (bb 7 &&& (255 : Int32)).toInt := by rw [hv7, c_i2l]
  have rv7 : 0 ≤ v7.toInt ∧ v7.toInt < 256 := hv7 ▸ own_rv (bb 7)
  refine s_lstore (pc' := 40) X64.here hx (l' := #[.val (.ref a), .val (.int o), .val (.ref rr), .val (.int (56 : Int32)), .val (.long v7), .second]) (hb hby own_d2_38) rfl rfl ?_
  refine s_aloadN (pc' := 41) X64.here hx (hb hby own_d2_40) rfl rfl rfl ?_
  refine s_iloadN (pc' := 42) X64.here hx (hb hby own_d2_41) rfl rfl ?_
  refine s_bipush (pc' := 44) X64.here hx (v := (51 : Int32)) (hb hby own_d2_42) rfl rfl ?_
  refine s_idiv (pc' := 45) X64.here hx (hb hby own_d2_44) (by decide) rfl ?_
  refine s_dup2 (pc' := 46) X64.here hx (hb hby own_d2_45) rfl rfl rfl ?_
  rw [show ((56 : Int32) / (51 : Int32)) = (1 : Int32) from by decide]
  refine s_laload (pc' := 47) (v := (.long l1_6o)) X64 hx hZ e64 V65 ⟨by decide, by decide⟩ rfl (hb hby own_d2_46) rfl ?_
  refine s_lload (pc' := 49) X64.here hx (hb hby own_d2_47) rfl rfl ?_
  refine s_iloadN (pc' := 50) X64.here hx (hb hby own_d2_49) rfl rfl ?_
  refine s_bipush (pc' := 52) X64.here hx (v := (51 : Int32)) (hb hby own_d2_50) rfl rfl ?_
  refine s_irem (pc' := 53) X64 hx (hb hby own_d2_52) (by decide) rfl ?_
  refine s_lshl (pc' := 54) X64.here hx (hb hby own_d2_53) rfl ?_
  refine s_ldcJ (pc' := 57) X64 hx hZ hown (hw _ (List.mem_of_getElem? (i := 10) rfl)) (hb hby own_d2_54) rfl ?_
  refine s_land (pc' := 58) X64.here hx (hb hby own_d2_57) rfl ?_
  refine s_lor (pc' := 59) X64.here hx (hb hby own_d2_58) rfl ?_
  rw [show ((56 : Int32) % (51 : Int32)) = (5 : Int32) from by decide]
  refine s_putJ (pc' := 60) X64 hx hZ e64 V65 ⟨by decide, by decide⟩ 1 rfl (Nat.le_of_ble_eq_true rfl) (hb hby own_d2_59) rfl fun T71 hp71 X71 e71 W71 Vw71 => ?_
  have V72 : Arv Z hp71 rr ka1 .long (5 : Int32) [(.long l0_6), (.long (l1_6o ||| ((v7 <<< ((5 : Int32) &&& 0x3f).toInt64) &&& (2251799813685247 : Int64)))), (.long (0 : Int64)), (.long (0 : Int64)), (.long (0 : Int64))] (.long (0 : Int64)) := Vw71
  have N71 := Fr.snoc X71 N64 g_rr
  have f73 := f66.other W71 ne2
  have Z74 : n0 ≤ hp71.size := Nat.le_trans Z67 (Keep.of_wr W71).1
  have K75 : Keep h0 hp71 [] := K68.wr W71 (Or.inr sz_rr)
  have el7 := own_limb5 l1_6o v7 eo6.2 rv7
  obtain ⟨l1_7, hl1_7⟩ : ∃ y, y = (l1_6o ||| ((v7 <<< ((5 : Int32) &&& 0x3f).toInt64) &&& (2251799813685247 : Int64))) := ⟨_, rfl⟩
  rw [← hl1_7] at V72 el7
  refine s_iloadN (pc' := 61) X71.here hx (hb hby own_d2_60) rfl rfl ?_
  refine s_bipush (pc' := 63) X71.here hx (v := (51 : Int32)) (hb hby own_d2_61) rfl rfl ?_
  refine s_irem (pc' := 64) X71 hx (hb hby own_d2_63) (by decide) rfl ?_
  refine s_bipush (pc' := 66) X71.here hx (v := (43 : Int32)) (hb hby own_d2_64) rfl rfl ?_
  rw [show ((56 : Int32) % (51 : Int32)) = (5 : Int32) from by decide]
  have hk76 : ¬ ((43 : Int32) < (5 : Int32)) := by decide
  refine s_icmpYes (pc' := 100) X71.here hx (hb hby own_d2_66) (flt hk76).2.2.2 (by decide) (by decide) ?_
  refine s_iinc (pc' := 103) X71.here hx (v := (8 : Int32)) (l' := #[.val (.ref a), .val (.int o), .val (.ref rr), .val (.int ((56 : Int32) + (8 : Int32))), .val (.long v7), .second]) (hb hby own_d2_100) rfl rfl rfl rfl ?_
  refine s_goto (pc' := 6) X71.here hx (hb hby own_d2_103) (by decide) (by decide) ?_
  rw [show ((56 : Int32) + (8 : Int32)) = (64 : Int32) from by decide]
  refine s_iloadN (pc' := 7) X71.here hx (hb hby own_d2_6) rfl rfl ?_
  refine s_sipush (pc' := 10) X71.here hx (v := (255 : Int32)) (hb hby own_d2_7) rfl rfl ?_
  have hk77 : (64 : Int32) < (255 : Int32) := by decide
  refine s_icmpNo (pc' := 13) X71.here hx (hb hby own_d2_10) (tlt hk77).2.1 rfl ?_
  refine s_aloadN (pc' := 14) X71.here hx (hb hby own_d2_13) rfl rfl rfl ?_
  refine s_iloadN (pc' := 15) X71.here hx (hb hby own_d2_14) rfl rfl ?_
  refine s_iloadN (pc' := 16) X71.here hx (hb hby own_d2_15) rfl rfl ?_
  refine s_bipush (pc' := 18) X71.here hx (v := (8 : Int32)) (hb hby own_d2_16) rfl rfl ?_
  refine s_idiv (pc' := 19) X71.here hx (hb hby own_d2_18) (by decide) rfl ?_
  refine s_iadd (pc' := 20) X71.here hx (hb hby own_d2_19) rfl ?_
  rw [show ((64 : Int32) / (8 : Int32)) = (8 : Int32) from by decide]
  refine s_baload (pc' := 21) (v := (.int (bb 8))) X71 hx hZ e71 f73 ⟨ix8.1, ix8.2.1⟩ (by rw [ix8.2.2]; exact hbj 8 (by decide)) (hb hby own_d2_20) rfl ?_
  refine s_iloadN (pc' := 22) X71.here hx (hb hby own_d2_21) rfl rfl ?_
  refine s_sipush (pc' := 25) X71.here hx (v := (248 : Int32)) (hb hby own_d2_22) rfl rfl ?_
  have hk78 : ¬ ((64 : Int32) = (248 : Int32)) := by decide
  refine s_icmpYes (pc' := 33) X71.here hx (hb hby own_d2_25) (feq hk78).2 (by decide) (by decide) ?_
  refine s_sipush (pc' := 36) X71.here hx (v := (255 : Int32)) (hb hby own_d2_33) rfl rfl ?_
  refine s_iand (pc' := 37) X71.here hx (hb hby own_d2_36) rfl ?_
  refine s_i2l (pc' := 38) X71.here hx (hb hby own_d2_37) rfl ?_
  obtain ⟨v8, hv8⟩ : ∃ z : Int64, z = (((bb 8) &&& (255 : Int32)).toInt64) := ⟨_, rfl⟩
  rw [← hv8]
  have bv8 : v8.toInt = (bb 8 &&& (255 : Int32)).toInt := by rw [hv8, c_i2l]
  have rv8 : 0 ≤ v8.toInt ∧ v8.toInt < 256 := hv8 ▸ own_rv (bb 8)
  refine s_lstore (pc' := 40) X71.here hx (l' := #[.val (.ref a), .val (.int o), .val (.ref rr), .val (.int (64 : Int32)), .val (.long v8), .second]) (hb hby own_d2_38) rfl rfl ?_
  refine s_aloadN (pc' := 41) X71.here hx (hb hby own_d2_40) rfl rfl rfl ?_
  refine s_iloadN (pc' := 42) X71.here hx (hb hby own_d2_41) rfl rfl ?_
  refine s_bipush (pc' := 44) X71.here hx (v := (51 : Int32)) (hb hby own_d2_42) rfl rfl ?_
  refine s_idiv (pc' := 45) X71.here hx (hb hby own_d2_44) (by decide) rfl ?_
  refine s_dup2 (pc' := 46) X71.here hx (hb hby own_d2_45) rfl rfl rfl ?_
  rw [show ((64 : Int32) / (51 : Int32)) = (1 : Int32) from by decide]
  refine s_laload (pc' := 47) (v := (.long l1_7)) X71 hx hZ e71 V72 ⟨by decide, by decide⟩ rfl (hb hby own_d2_46) rfl ?_
  refine s_lload (pc' := 49) X71.here hx (hb hby own_d2_47) rfl rfl ?_
  refine s_iloadN (pc' := 50) X71.here hx (hb hby own_d2_49) rfl rfl ?_
  refine s_bipush (pc' := 52) X71.here hx (v := (51 : Int32)) (hb hby own_d2_50) rfl rfl ?_
  refine s_irem (pc' := 53) X71 hx (hb hby own_d2_52) (by decide) rfl ?_
  refine s_lshl (pc' := 54) X71.here hx (hb hby own_d2_53) rfl ?_
  refine s_ldcJ (pc' := 57) X71 hx hZ hown (hw _ (List.mem_of_getElem? (i := 10) rfl)) (hb hby own_d2_54) rfl ?_
  refine s_land (pc' := 58) X71.here hx (hb hby own_d2_57) rfl ?_
  refine s_lor (pc' := 59) X71.here hx (hb hby own_d2_58) rfl ?_
  rw [show ((64 : Int32) % (51 : Int32)) = (13 : Int32) from by decide]
  refine s_putJ (pc' := 60) X71 hx hZ e71 V72 ⟨by decide, by decide⟩ 1 rfl (Nat.le_of_ble_eq_true rfl) (hb hby own_d2_59) rfl fun T79 hp79 X79 e79 W79 Vw79 => ?_
  have V80 : Arv Z hp79 rr ka1 .long (5 : Int32) [(.long l0_6), (.long (l1_7 ||| ((v8 <<< ((13 : Int32) &&& 0x3f).toInt64) &&& (2251799813685247 : Int64)))), (.long (0 : Int64)), (.long (0 : Int64)), (.long (0 : Int64))] (.long (0 : Int64)) := Vw79
  have N79 := Fr.snoc X79 N71 g_rr
  have f81 := f73.other W79 ne2
  have Z82 : n0 ≤ hp79.size := Nat.le_trans Z74 (Keep.of_wr W79).1
  have K83 : Keep h0 hp79 [] := K75.wr W79 (Or.inr sz_rr)
  have el8 := own_limb13 l1_7 v8 el7.2 rv8
  obtain ⟨l1_8, hl1_8⟩ : ∃ y, y = (l1_7 ||| ((v8 <<< ((13 : Int32) &&& 0x3f).toInt64) &&& (2251799813685247 : Int64))) := ⟨_, rfl⟩
  rw [← hl1_8] at V80 el8
  refine s_iloadN (pc' := 61) X79.here hx (hb hby own_d2_60) rfl rfl ?_
  refine s_bipush (pc' := 63) X79.here hx (v := (51 : Int32)) (hb hby own_d2_61) rfl rfl ?_
  refine s_irem (pc' := 64) X79 hx (hb hby own_d2_63) (by decide) rfl ?_
  refine s_bipush (pc' := 66) X79.here hx (v := (43 : Int32)) (hb hby own_d2_64) rfl rfl ?_
  rw [show ((64 : Int32) % (51 : Int32)) = (13 : Int32) from by decide]
  have hk84 : ¬ ((43 : Int32) < (13 : Int32)) := by decide
  refine s_icmpYes (pc' := 100) X79.here hx (hb hby own_d2_66) (flt hk84).2.2.2 (by decide) (by decide) ?_
  refine s_iinc (pc' := 103) X79.here hx (v := (8 : Int32)) (l' := #[.val (.ref a), .val (.int o), .val (.ref rr), .val (.int ((64 : Int32) + (8 : Int32))), .val (.long v8), .second]) (hb hby own_d2_100) rfl rfl rfl rfl ?_
  refine s_goto (pc' := 6) X79.here hx (hb hby own_d2_103) (by decide) (by decide) ?_
  rw [show ((64 : Int32) + (8 : Int32)) = (72 : Int32) from by decide]
  refine s_iloadN (pc' := 7) X79.here hx (hb hby own_d2_6) rfl rfl ?_
  refine s_sipush (pc' := 10) X79.here hx (v := (255 : Int32)) (hb hby own_d2_7) rfl rfl ?_
  have hk85 : (72 : Int32) < (255 : Int32) := by decide
  refine s_icmpNo (pc' := 13) X79.here hx (hb hby own_d2_10) (tlt hk85).2.1 rfl ?_
  refine s_aloadN (pc' := 14) X79.here hx (hb hby own_d2_13) rfl rfl rfl ?_
  refine s_iloadN (pc' := 15) X79.here hx (hb hby own_d2_14) rfl rfl ?_
  refine s_iloadN (pc' := 16) X79.here hx (hb hby own_d2_15) rfl rfl ?_
  refine s_bipush (pc' := 18) X79.here hx (v := (8 : Int32)) (hb hby own_d2_16) rfl rfl ?_
  refine s_idiv (pc' := 19) X79.here hx (hb hby own_d2_18) (by decide) rfl ?_
  refine s_iadd (pc' := 20) X79.here hx (hb hby own_d2_19) rfl ?_
  rw [show ((72 : Int32) / (8 : Int32)) = (9 : Int32) from by decide]
  refine s_baload (pc' := 21) (v := (.int (bb 9))) X79 hx hZ e79 f81 ⟨ix9.1, ix9.2.1⟩ (by rw [ix9.2.2]; exact hbj 9 (by decide)) (hb hby own_d2_20) rfl ?_
  refine s_iloadN (pc' := 22) X79.here hx (hb hby own_d2_21) rfl rfl ?_
  refine s_sipush (pc' := 25) X79.here hx (v := (248 : Int32)) (hb hby own_d2_22) rfl rfl ?_
  have hk86 : ¬ ((72 : Int32) = (248 : Int32)) := by decide
  refine s_icmpYes (pc' := 33) X79.here hx (hb hby own_d2_25) (feq hk86).2 (by decide) (by decide) ?_
  refine s_sipush (pc' := 36) X79.here hx (v := (255 : Int32)) (hb hby own_d2_33) rfl rfl ?_
  refine s_iand (pc' := 37) X79.here hx (hb hby own_d2_36) rfl ?_
  refine s_i2l (pc' := 38) X79.here hx (hb hby own_d2_37) rfl ?_
  obtain ⟨v9, hv9⟩ : ∃ z : Int64, z = (((bb 9) &&& (255 : Int32)).toInt64) := ⟨_, rfl⟩
  rw [← hv9]
  have bv9 : v9.toInt = (bb 9 &&& (255 : Int32)).toInt := by rw [hv9, c_i2l]
  have rv9 : 0 ≤ v9.toInt ∧ v9.toInt < 256 := hv9 ▸ own_rv (bb 9)
  refine s_lstore (pc' := 40) X79.here hx (l' := #[.val (.ref a), .val (.int o), .val (.ref rr), .val (.int (72 : Int32)), .val (.long v9), .second]) (hb hby own_d2_38) rfl rfl ?_
  refine s_aloadN (pc' := 41) X79.here hx (hb hby own_d2_40) rfl rfl rfl ?_
  refine s_iloadN (pc' := 42) X79.here hx (hb hby own_d2_41) rfl rfl ?_
  refine s_bipush (pc' := 44) X79.here hx (v := (51 : Int32)) (hb hby own_d2_42) rfl rfl ?_
  refine s_idiv (pc' := 45) X79.here hx (hb hby own_d2_44) (by decide) rfl ?_
  refine s_dup2 (pc' := 46) X79.here hx (hb hby own_d2_45) rfl rfl rfl ?_
  rw [show ((72 : Int32) / (51 : Int32)) = (1 : Int32) from by decide]
  refine s_laload (pc' := 47) (v := (.long l1_8)) X79 hx hZ e79 V80 ⟨by decide, by decide⟩ rfl (hb hby own_d2_46) rfl ?_
  refine s_lload (pc' := 49) X79.here hx (hb hby own_d2_47) rfl rfl ?_
  refine s_iloadN (pc' := 50) X79.here hx (hb hby own_d2_49) rfl rfl ?_
  refine s_bipush (pc' := 52) X79.here hx (v := (51 : Int32)) (hb hby own_d2_50) rfl rfl ?_
  refine s_irem (pc' := 53) X79 hx (hb hby own_d2_52) (by decide) rfl ?_
  refine s_lshl (pc' := 54) X79.here hx (hb hby own_d2_53) rfl ?_
  refine s_ldcJ (pc' := 57) X79 hx hZ hown (hw _ (List.mem_of_getElem? (i := 10) rfl)) (hb hby own_d2_54) rfl ?_
  refine s_land (pc' := 58) X79.here hx (hb hby own_d2_57) rfl ?_
  refine s_lor (pc' := 59) X79.here hx (hb hby own_d2_58) rfl ?_
  rw [show ((72 : Int32) % (51 : Int32)) = (21 : Int32) from by decide]
  refine s_putJ (pc' := 60) X79 hx hZ e79 V80 ⟨by decide, by decide⟩ 1 rfl (Nat.le_of_ble_eq_true rfl) (hb hby own_d2_59) rfl fun T87 hp87 X87 e87 W87 Vw87 => ?_
  have V88 : Arv Z hp87 rr ka1 .long (5 : Int32) [(.long l0_6), (.long (l1_8 ||| ((v9 <<< ((21 : Int32) &&& 0x3f).toInt64) &&& (2251799813685247 : Int64)))), (.long (0 : Int64)), (.long (0 : Int64)), (.long (0 : Int64))] (.long (0 : Int64)) := Vw87
  have N87 := Fr.snoc X87 N79 g_rr
  have f89 := f81.other W87 ne2
  have Z90 : n0 ≤ hp87.size := Nat.le_trans Z82 (Keep.of_wr W87).1
  have K91 : Keep h0 hp87 [] := K83.wr W87 (Or.inr sz_rr)
  have el9 := own_limb21 l1_8 v9 el8.2 rv9
  obtain ⟨l1_9, hl1_9⟩ : ∃ y, y = (l1_8 ||| ((v9 <<< ((21 : Int32) &&& 0x3f).toInt64) &&& (2251799813685247 : Int64))) := ⟨_, rfl⟩
  rw [← hl1_9] at V88 el9
  refine s_iloadN (pc' := 61) X87.here hx (hb hby own_d2_60) rfl rfl ?_
  refine s_bipush (pc' := 63) X87.here hx (v := (51 : Int32)) (hb hby own_d2_61) rfl rfl ?_
  refine s_irem (pc' := 64) X87 hx (hb hby own_d2_63) (by decide) rfl ?_
  refine s_bipush (pc' := 66) X87.here hx (v := (43 : Int32)) (hb hby own_d2_64) rfl rfl ?_
  rw [show ((72 : Int32) % (51 : Int32)) = (21 : Int32) from by decide]
  have hk92 : ¬ ((43 : Int32) < (21 : Int32)) := by decide
  refine s_icmpYes (pc' := 100) X87.here hx (hb hby own_d2_66) (flt hk92).2.2.2 (by decide) (by decide) ?_
  refine s_iinc (pc' := 103) X87.here hx (v := (8 : Int32)) (l' := #[.val (.ref a), .val (.int o), .val (.ref rr), .val (.int ((72 : Int32) + (8 : Int32))), .val (.long v9), .second]) (hb hby own_d2_100) rfl rfl rfl rfl ?_
  refine s_goto (pc' := 6) X87.here hx (hb hby own_d2_103) (by decide) (by decide) ?_
  rw [show ((72 : Int32) + (8 : Int32)) = (80 : Int32) from by decide]
  refine s_iloadN (pc' := 7) X87.here hx (hb hby own_d2_6) rfl rfl ?_
  refine s_sipush (pc' := 10) X87.here hx (v := (255 : Int32)) (hb hby own_d2_7) rfl rfl ?_
  have hk93 : (80 : Int32) < (255 : Int32) := by decide
  refine s_icmpNo (pc' := 13) X87.here hx (hb hby own_d2_10) (tlt hk93).2.1 rfl ?_
  refine s_aloadN (pc' := 14) X87.here hx (hb hby own_d2_13) rfl rfl rfl ?_
  refine s_iloadN (pc' := 15) X87.here hx (hb hby own_d2_14) rfl rfl ?_
  refine s_iloadN (pc' := 16) X87.here hx (hb hby own_d2_15) rfl rfl ?_
  refine s_bipush (pc' := 18) X87.here hx (v := (8 : Int32)) (hb hby own_d2_16) rfl rfl ?_
  refine s_idiv (pc' := 19) X87.here hx (hb hby own_d2_18) (by decide) rfl ?_
  refine s_iadd (pc' := 20) X87.here hx (hb hby own_d2_19) rfl ?_
  rw [show ((80 : Int32) / (8 : Int32)) = (10 : Int32) from by decide]
  refine s_baload (pc' := 21) (v := (.int (bb 10))) X87 hx hZ e87 f89 ⟨ix10.1, ix10.2.1⟩ (by rw [ix10.2.2]; exact hbj 10 (by decide)) (hb hby own_d2_20) rfl ?_
  refine s_iloadN (pc' := 22) X87.here hx (hb hby own_d2_21) rfl rfl ?_
  refine s_sipush (pc' := 25) X87.here hx (v := (248 : Int32)) (hb hby own_d2_22) rfl rfl ?_
  have hk94 : ¬ ((80 : Int32) = (248 : Int32)) := by decide
  refine s_icmpYes (pc' := 33) X87.here hx (hb hby own_d2_25) (feq hk94).2 (by decide) (by decide) ?_
  refine s_sipush (pc' := 36) X87.here hx (v := (255 : Int32)) (hb hby own_d2_33) rfl rfl ?_
  refine s_iand (pc' := 37) X87.here hx (hb hby own_d2_36) rfl ?_
  refine s_i2l (pc' := 38) X87.here hx (hb hby own_d2_37) rfl ?_
  obtain ⟨v10, hv10⟩ : ∃ z : Int64, z = (((bb 10) &&& (255 : Int32)).toInt64) := ⟨_, rfl⟩
  rw [← hv10]
  have bv10 : v10.toInt = (bb 10 &&& (255 : Int32)).toInt := by rw [hv10, c_i2l]
  have rv10 : 0 ≤ v10.toInt ∧ v10.toInt < 256 := hv10 ▸ own_rv (bb 10)
  refine s_lstore (pc' := 40) X87.here hx (l' := #[.val (.ref a), .val (.int o), .val (.ref rr), .val (.int (80 : Int32)), .val (.long v10), .second]) (hb hby own_d2_38) rfl rfl ?_
  refine s_aloadN (pc' := 41) X87.here hx (hb hby own_d2_40) rfl rfl rfl ?_
  refine s_iloadN (pc' := 42) X87.here hx (hb hby own_d2_41) rfl rfl ?_
  refine s_bipush (pc' := 44) X87.here hx (v := (51 : Int32)) (hb hby own_d2_42) rfl rfl ?_
  refine s_idiv (pc' := 45) X87.here hx (hb hby own_d2_44) (by decide) rfl ?_
  refine s_dup2 (pc' := 46) X87.here hx (hb hby own_d2_45) rfl rfl rfl ?_
  rw [show ((80 : Int32) / (51 : Int32)) = (1 : Int32) from by decide]
  refine s_laload (pc' := 47) (v := (.long l1_9)) X87 hx hZ e87 V88 ⟨by decide, by decide⟩ rfl (hb hby own_d2_46) rfl ?_
  refine s_lload (pc' := 49) X87.here hx (hb hby own_d2_47) rfl rfl ?_
  refine s_iloadN (pc' := 50) X87.here hx (hb hby own_d2_49) rfl rfl ?_
  refine s_bipush (pc' := 52) X87.here hx (v := (51 : Int32)) (hb hby own_d2_50) rfl rfl ?_
  refine s_irem (pc' := 53) X87 hx (hb hby own_d2_52) (by decide) rfl ?_
  refine s_lshl (pc' := 54) X87.here hx (hb hby own_d2_53) rfl ?_
  refine s_ldcJ (pc' := 57) X87 hx hZ hown (hw _ (List.mem_of_getElem? (i := 10) rfl)) (hb hby own_d2_54) rfl ?_
  refine s_land (pc' := 58) X87.here hx (hb hby own_d2_57) rfl ?_
  refine s_lor (pc' := 59) X87.here hx (hb hby own_d2_58) rfl ?_
  rw [show ((80 : Int32) % (51 : Int32)) = (29 : Int32) from by decide]
  refine s_putJ (pc' := 60) X87 hx hZ e87 V88 ⟨by decide, by decide⟩ 1 rfl (Nat.le_of_ble_eq_true rfl) (hb hby own_d2_59) rfl fun T95 hp95 X95 e95 W95 Vw95 => ?_
  have V96 : Arv Z hp95 rr ka1 .long (5 : Int32) [(.long l0_6), (.long (l1_9 ||| ((v10 <<< ((29 : Int32) &&& 0x3f).toInt64) &&& (2251799813685247 : Int64)))), (.long (0 : Int64)), (.long (0 : Int64)), (.long (0 : Int64))] (.long (0 : Int64)) := Vw95
  have N95 := Fr.snoc X95 N87 g_rr
  have f97 := f89.other W95 ne2
  have Z98 : n0 ≤ hp95.size := Nat.le_trans Z90 (Keep.of_wr W95).1
  have K99 : Keep h0 hp95 [] := K91.wr W95 (Or.inr sz_rr)
  have el10 := own_limb29 l1_9 v10 el9.2 rv10
  obtain ⟨l1_10, hl1_10⟩ : ∃ y, y = (l1_9 ||| ((v10 <<< ((29 : Int32) &&& 0x3f).toInt64) &&& (2251799813685247 : Int64))) := ⟨_, rfl⟩
  rw [← hl1_10] at V96 el10
  refine s_iloadN (pc' := 61) X95.here hx (hb hby own_d2_60) rfl rfl ?_
  refine s_bipush (pc' := 63) X95.here hx (v := (51 : Int32)) (hb hby own_d2_61) rfl rfl ?_
  refine s_irem (pc' := 64) X95 hx (hb hby own_d2_63) (by decide) rfl ?_
  refine s_bipush (pc' := 66) X95.here hx (v := (43 : Int32)) (hb hby own_d2_64) rfl rfl ?_
  rw [show ((80 : Int32) % (51 : Int32)) = (29 : Int32) from by decide]
  have hk100 : ¬ ((43 : Int32) < (29 : Int32)) := by decide
  refine s_icmpYes (pc' := 100) X95.here hx (hb hby own_d2_66) (flt hk100).2.2.2 (by decide) (by decide) ?_
  refine s_iinc (pc' := 103) X95.here hx (v := (8 : Int32)) (l' := #[.val (.ref a), .val (.int o), .val (.ref rr), .val (.int ((80 : Int32) + (8 : Int32))), .val (.long v10), .second]) (hb hby own_d2_100) rfl rfl rfl rfl ?_
  refine s_goto (pc' := 6) X95.here hx (hb hby own_d2_103) (by decide) (by decide) ?_
  rw [show ((80 : Int32) + (8 : Int32)) = (88 : Int32) from by decide]
  refine s_iloadN (pc' := 7) X95.here hx (hb hby own_d2_6) rfl rfl ?_
  refine s_sipush (pc' := 10) X95.here hx (v := (255 : Int32)) (hb hby own_d2_7) rfl rfl ?_
  have hk101 : (88 : Int32) < (255 : Int32) := by decide
  refine s_icmpNo (pc' := 13) X95.here hx (hb hby own_d2_10) (tlt hk101).2.1 rfl ?_
  refine s_aloadN (pc' := 14) X95.here hx (hb hby own_d2_13) rfl rfl rfl ?_
  refine s_iloadN (pc' := 15) X95.here hx (hb hby own_d2_14) rfl rfl ?_
  refine s_iloadN (pc' := 16) X95.here hx (hb hby own_d2_15) rfl rfl ?_
  refine s_bipush (pc' := 18) X95.here hx (v := (8 : Int32)) (hb hby own_d2_16) rfl rfl ?_
  refine s_idiv (pc' := 19) X95.here hx (hb hby own_d2_18) (by decide) rfl ?_
  refine s_iadd (pc' := 20) X95.here hx (hb hby own_d2_19) rfl ?_
  rw [show ((88 : Int32) / (8 : Int32)) = (11 : Int32) from by decide]
  refine s_baload (pc' := 21) (v := (.int (bb 11))) X95 hx hZ e95 f97 ⟨ix11.1, ix11.2.1⟩ (by rw [ix11.2.2]; exact hbj 11 (by decide)) (hb hby own_d2_20) rfl ?_
  refine s_iloadN (pc' := 22) X95.here hx (hb hby own_d2_21) rfl rfl ?_
  refine s_sipush (pc' := 25) X95.here hx (v := (248 : Int32)) (hb hby own_d2_22) rfl rfl ?_
  have hk102 : ¬ ((88 : Int32) = (248 : Int32)) := by decide
  refine s_icmpYes (pc' := 33) X95.here hx (hb hby own_d2_25) (feq hk102).2 (by decide) (by decide) ?_
  refine s_sipush (pc' := 36) X95.here hx (v := (255 : Int32)) (hb hby own_d2_33) rfl rfl ?_
  refine s_iand (pc' := 37) X95.here hx (hb hby own_d2_36) rfl ?_
  refine s_i2l (pc' := 38) X95.here hx (hb hby own_d2_37) rfl ?_
  obtain ⟨v11, hv11⟩ : ∃ z : Int64, z = (((bb 11) &&& (255 : Int32)).toInt64) := ⟨_, rfl⟩
  rw [← hv11]
  have bv11 : v11.toInt = (bb 11 &&& (255 : Int32)).toInt := by rw [hv11, c_i2l]
  have rv11 : 0 ≤ v11.toInt ∧ v11.toInt < 256 := hv11 ▸ own_rv (bb 11)
  refine s_lstore (pc' := 40) X95.here hx (l' := #[.val (.ref a), .val (.int o), .val (.ref rr), .val (.int (88 : Int32)), .val (.long v11), .second]) (hb hby own_d2_38) rfl rfl ?_
  refine s_aloadN (pc' := 41) X95.here hx (hb hby own_d2_40) rfl rfl rfl ?_
  refine s_iloadN (pc' := 42) X95.here hx (hb hby own_d2_41) rfl rfl ?_
  refine s_bipush (pc' := 44) X95.here hx (v := (51 : Int32)) (hb hby own_d2_42) rfl rfl ?_
  refine s_idiv (pc' := 45) X95.here hx (hb hby own_d2_44) (by decide) rfl ?_
  refine s_dup2 (pc' := 46) X95.here hx (hb hby own_d2_45) rfl rfl rfl ?_
  rw [show ((88 : Int32) / (51 : Int32)) = (1 : Int32) from by decide]
  refine s_laload (pc' := 47) (v := (.long l1_10)) X95 hx hZ e95 V96 ⟨by decide, by decide⟩ rfl (hb hby own_d2_46) rfl ?_
  refine s_lload (pc' := 49) X95.here hx (hb hby own_d2_47) rfl rfl ?_
  refine s_iloadN (pc' := 50) X95.here hx (hb hby own_d2_49) rfl rfl ?_
  refine s_bipush (pc' := 52) X95.here hx (v := (51 : Int32)) (hb hby own_d2_50) rfl rfl ?_
  refine s_irem (pc' := 53) X95 hx (hb hby own_d2_52) (by decide) rfl ?_
  refine s_lshl (pc' := 54) X95.here hx (hb hby own_d2_53) rfl ?_
  refine s_ldcJ (pc' := 57) X95 hx hZ hown (hw _ (List.mem_of_getElem? (i := 10) rfl)) (hb hby own_d2_54) rfl ?_
  refine s_land (pc' := 58) X95.here hx (hb hby own_d2_57) rfl ?_
  refine s_lor (pc' := 59) X95.here hx (hb hby own_d2_58) rfl ?_
  rw [show ((88 : Int32) % (51 : Int32)) = (37 : Int32) from by decide]
  refine s_putJ (pc' := 60) X95 hx hZ e95 V96 ⟨by decide, by decide⟩ 1 rfl (Nat.le_of_ble_eq_true rfl) (hb hby own_d2_59) rfl fun T103 hp103 X103 e103 W103 Vw103 => ?_
  have V104 : Arv Z hp103 rr ka1 .long (5 : Int32) [(.long l0_6), (.long (l1_10 ||| ((v11 <<< ((37 : Int32) &&& 0x3f).toInt64) &&& (2251799813685247 : Int64)))), (.long (0 : Int64)), (.long (0 : Int64)), (.long (0 : Int64))] (.long (0 : Int64)) := Vw103
  have N103 := Fr.snoc X103 N95 g_rr
  have f105 := f97.other W103 ne2
  have Z106 : n0 ≤ hp103.size := Nat.le_trans Z98 (Keep.of_wr W103).1
  have K107 : Keep h0 hp103 [] := K99.wr W103 (Or.inr sz_rr)
  have el11 := own_limb37 l1_10 v11 el10.2 rv11
  obtain ⟨l1_11, hl1_11⟩ : ∃ y, y = (l1_10 ||| ((v11 <<< ((37 : Int32) &&& 0x3f).toInt64) &&& (2251799813685247 : Int64))) := ⟨_, rfl⟩
  rw [← hl1_11] at V104 el11
  refine s_iloadN (pc' := 61) X103.here hx (hb hby own_d2_60) rfl rfl ?_
  refine s_bipush (pc' := 63) X103.here hx (v := (51 : Int32)) (hb hby own_d2_61) rfl rfl ?_
  refine s_irem (pc' := 64) X103 hx (hb hby own_d2_63) (by decide) rfl ?_
  refine s_bipush (pc' := 66) X103.here hx (v := (43 : Int32)) (hb hby own_d2_64) rfl rfl ?_
  rw [show ((88 : Int32) % (51 : Int32)) = (37 : Int32) from by decide]
  have hk108 : ¬ ((43 : Int32) < (37 : Int32)) := by decide
  refine s_icmpYes (pc' := 100) X103.here hx (hb hby own_d2_66) (flt hk108).2.2.2 (by decide) (by decide) ?_
  refine s_iinc (pc' := 103) X103.here hx (v := (8 : Int32)) (l' := #[.val (.ref a), .val (.int o), .val (.ref rr), .val (.int ((88 : Int32) + (8 : Int32))), .val (.long v11), .second]) (hb hby own_d2_100) rfl rfl rfl rfl ?_
  refine s_goto (pc' := 6) X103.here hx (hb hby own_d2_103) (by decide) (by decide) ?_
  rw [show ((88 : Int32) + (8 : Int32)) = (96 : Int32) from by decide]
  refine s_iloadN (pc' := 7) X103.here hx (hb hby own_d2_6) rfl rfl ?_
  refine s_sipush (pc' := 10) X103.here hx (v := (255 : Int32)) (hb hby own_d2_7) rfl rfl ?_
  have hk109 : (96 : Int32) < (255 : Int32) := by decide
  refine s_icmpNo (pc' := 13) X103.here hx (hb hby own_d2_10) (tlt hk109).2.1 rfl ?_
  refine s_aloadN (pc' := 14) X103.here hx (hb hby own_d2_13) rfl rfl rfl ?_
  refine s_iloadN (pc' := 15) X103.here hx (hb hby own_d2_14) rfl rfl ?_
  refine s_iloadN (pc' := 16) X103.here hx (hb hby own_d2_15) rfl rfl ?_
  refine s_bipush (pc' := 18) X103.here hx (v := (8 : Int32)) (hb hby own_d2_16) rfl rfl ?_
  refine s_idiv (pc' := 19) X103.here hx (hb hby own_d2_18) (by decide) rfl ?_
  refine s_iadd (pc' := 20) X103.here hx (hb hby own_d2_19) rfl ?_
  rw [show ((96 : Int32) / (8 : Int32)) = (12 : Int32) from by decide]
  refine s_baload (pc' := 21) (v := (.int (bb 12))) X103 hx hZ e103 f105 ⟨ix12.1, ix12.2.1⟩ (by rw [ix12.2.2]; exact hbj 12 (by decide)) (hb hby own_d2_20) rfl ?_
  refine s_iloadN (pc' := 22) X103.here hx (hb hby own_d2_21) rfl rfl ?_
  refine s_sipush (pc' := 25) X103.here hx (v := (248 : Int32)) (hb hby own_d2_22) rfl rfl ?_
  have hk110 : ¬ ((96 : Int32) = (248 : Int32)) := by decide
  refine s_icmpYes (pc' := 33) X103.here hx (hb hby own_d2_25) (feq hk110).2 (by decide) (by decide) ?_
  refine s_sipush (pc' := 36) X103.here hx (v := (255 : Int32)) (hb hby own_d2_33) rfl rfl ?_
  refine s_iand (pc' := 37) X103.here hx (hb hby own_d2_36) rfl ?_
  refine s_i2l (pc' := 38) X103.here hx (hb hby own_d2_37) rfl ?_
  obtain ⟨v12, hv12⟩ : ∃ z : Int64, z = (((bb 12) &&& (255 : Int32)).toInt64) := ⟨_, rfl⟩
  rw [← hv12]
  have bv12 : v12.toInt = (bb 12 &&& (255 : Int32)).toInt := by rw [hv12, c_i2l]
  have rv12 : 0 ≤ v12.toInt ∧ v12.toInt < 256 := hv12 ▸ own_rv (bb 12)
  refine s_lstore (pc' := 40) X103.here hx (l' := #[.val (.ref a), .val (.int o), .val (.ref rr), .val (.int (96 : Int32)), .val (.long v12), .second]) (hb hby own_d2_38) rfl rfl ?_
  refine s_aloadN (pc' := 41) X103.here hx (hb hby own_d2_40) rfl rfl rfl ?_
  refine s_iloadN (pc' := 42) X103.here hx (hb hby own_d2_41) rfl rfl ?_
  refine s_bipush (pc' := 44) X103.here hx (v := (51 : Int32)) (hb hby own_d2_42) rfl rfl ?_
  refine s_idiv (pc' := 45) X103.here hx (hb hby own_d2_44) (by decide) rfl ?_
  refine s_dup2 (pc' := 46) X103.here hx (hb hby own_d2_45) rfl rfl rfl ?_
  rw [show ((96 : Int32) / (51 : Int32)) = (1 : Int32) from by decide]
  refine s_laload (pc' := 47) (v := (.long l1_11)) X103 hx hZ e103 V104 ⟨by decide, by decide⟩ rfl (hb hby own_d2_46) rfl ?_
  refine s_lload (pc' := 49) X103.here hx (hb hby own_d2_47) rfl rfl ?_
  refine s_iloadN (pc' := 50) X103.here hx (hb hby own_d2_49) rfl rfl ?_
  refine s_bipush (pc' := 52) X103.here hx (v := (51 : Int32)) (hb hby own_d2_50) rfl rfl ?_
  refine s_irem (pc' := 53) X103 hx (hb hby own_d2_52) (by decide) rfl ?_
  refine s_lshl (pc' := 54) X103.here hx (hb hby own_d2_53) rfl ?_
  refine s_ldcJ (pc' := 57) X103 hx hZ hown (hw _ (List.mem_of_getElem? (i := 10) rfl)) (hb hby own_d2_54) rfl ?_
  refine s_land (pc' := 58) X103.here hx (hb hby own_d2_57) rfl ?_
  refine s_lor (pc' := 59) X103.here hx (hb hby own_d2_58) rfl ?_
  rw [show ((96 : Int32) % (51 : Int32)) = (45 : Int32) from by decide]
  refine s_putJ (pc' := 60) X103 hx hZ e103 V104 ⟨by decide, by decide⟩ 1 rfl (Nat.le_of_ble_eq_true rfl) (hb hby own_d2_59) rfl fun T111 hp111 X111 e111 W111 Vw111 => ?_
  have V112 : Arv Z hp111 rr ka1 .long (5 : Int32) [(.long l0_6), (.long (l1_11 ||| ((v12 <<< ((45 : Int32) &&& 0x3f).toInt64) &&& (2251799813685247 : Int64)))), (.long (0 : Int64)), (.long (0 : Int64)), (.long (0 : Int64))] (.long (0 : Int64)) := Vw111
  have N111 := Fr.snoc X111 N103 g_rr
  have f113 := f105.other W111 ne2
  have Z114 : n0 ≤ hp111.size := Nat.le_trans Z106 (Keep.of_wr W111).1
  have K115 : Keep h0 hp111 [] := K107.wr W111 (Or.inr sz_rr)
  have el12 := own_limb45 l1_11 v12 el11.2 rv12
  obtain ⟨l1_12, hl1_12⟩ : ∃ y, y = (l1_11 ||| ((v12 <<< ((45 : Int32) &&& 0x3f).toInt64) &&& (2251799813685247 : Int64))) := ⟨_, rfl⟩
  rw [← hl1_12] at V112 el12
  refine s_iloadN (pc' := 61) X111.here hx (hb hby own_d2_60) rfl rfl ?_
  refine s_bipush (pc' := 63) X111.here hx (v := (51 : Int32)) (hb hby own_d2_61) rfl rfl ?_
  refine s_irem (pc' := 64) X111 hx (hb hby own_d2_63) (by decide) rfl ?_
  refine s_bipush (pc' := 66) X111.here hx (v := (43 : Int32)) (hb hby own_d2_64) rfl rfl ?_
  rw [show ((96 : Int32) % (51 : Int32)) = (45 : Int32) from by decide]
  have hk116 : (43 : Int32) < (45 : Int32) := by decide
  refine s_icmpNo (pc' := 69) X111.here hx (hb hby own_d2_66) (tlt hk116).2.2.2 rfl ?_
  refine s_iloadN (pc' := 70) X111.here hx (hb hby own_d2_69) rfl rfl ?_
  refine s_bipush (pc' := 72) X111.here hx (v := (51 : Int32)) (hb hby own_d2_70) rfl rfl ?_
  refine s_idiv (pc' := 73) X111.here hx (hb hby own_d2_72) (by decide) rfl ?_
  refine s_iconst (pc' := 74) X111.here hx (v := (1 : Int32)) (hb hby own_d2_73) rfl rfl ?_
  refine s_iadd (pc' := 75) X111.here hx (hb hby own_d2_74) rfl ?_
  refine s_iconst (pc' := 76) X111.here hx (v := (5 : Int32)) (hb hby own_d2_75) rfl rfl ?_
  rw [show (((96 : Int32) / (51 : Int32)) + (1 : Int32)) = (2 : Int32) from by decide]
  have hk117 : (2 : Int32) < (5 : Int32) := by decide
  refine s_icmpNo (pc' := 79) X111.here hx (hb hby own_d2_76) (tlt hk117).2.1 rfl ?_
  refine s_aloadN (pc' := 80) X111.here hx (hb hby own_d2_79) rfl rfl rfl ?_
  refine s_iloadN (pc' := 81) X111.here hx (hb hby own_d2_80) rfl rfl ?_
  refine s_bipush (pc' := 83) X111.here hx (v := (51 : Int32)) (hb hby own_d2_81) rfl rfl ?_
  refine s_idiv (pc' := 84) X111.here hx (hb hby own_d2_83) (by decide) rfl ?_
  refine s_iconst (pc' := 85) X111.here hx (v := (1 : Int32)) (hb hby own_d2_84) rfl rfl ?_
  refine s_iadd (pc' := 86) X111.here hx (hb hby own_d2_85) rfl ?_
  refine s_dup2 (pc' := 87) X111.here hx (hb hby own_d2_86) rfl rfl rfl ?_
  rw [show (((96 : Int32) / (51 : Int32)) + (1 : Int32)) = (2 : Int32) from by decide]
  refine s_laload (pc' := 88) (v := (.long (0 : Int64))) X111 hx hZ e111 V112 ⟨by decide, by decide⟩ rfl (hb hby own_d2_87) rfl ?_
  refine s_lload (pc' := 90) X111.here hx (hb hby own_d2_88) rfl rfl ?_
  refine s_bipush (pc' := 92) X111.here hx (v := (51 : Int32)) (hb hby own_d2_90) rfl rfl ?_
  refine s_iloadN (pc' := 93) X111.here hx (hb hby own_d2_92) rfl rfl ?_
  refine s_bipush (pc' := 95) X111.here hx (v := (51 : Int32)) (hb hby own_d2_93) rfl rfl ?_
  refine s_irem (pc' := 96) X111 hx (hb hby own_d2_95) (by decide) rfl ?_
  refine s_isub (pc' := 97) X111.here hx (hb hby own_d2_96) rfl ?_
  refine s_lushr (pc' := 98) X111.here hx (hb hby own_d2_97) rfl ?_
  refine s_lor (pc' := 99) X111.here hx (hb hby own_d2_98) rfl ?_
  rw [show ((51 : Int32) - ((96 : Int32) % (51 : Int32))) = (6 : Int32) from by decide]
  refine s_putJ (pc' := 100) X111 hx hZ e111 V112 ⟨by decide, by decide⟩ 2 rfl (Nat.le_of_ble_eq_true rfl) (hb hby own_d2_99) rfl fun T118 hp118 X118 e118 W118 Vw118 => ?_
  have V119 : Arv Z hp118 rr ka1 .long (5 : Int32) [(.long l0_6), (.long l1_12), (.long ((0 : Int64) ||| ((v12.toUInt64 >>> ((6 : Int32) &&& 0x3f).toInt64.toUInt64).toInt64))), (.long (0 : Int64)), (.long (0 : Int64))] (.long (0 : Int64)) := Vw118
  have N118 := Fr.snoc X118 N111 g_rr
  have f120 := f113.other W118 ne2
  have Z121 : n0 ≤ hp118.size := Nat.le_trans Z114 (Keep.of_wr W118).1
  have K122 : Keep h0 hp118 [] := K115.wr W118 (Or.inr sz_rr)
  have eo12 := own_over6 v12 rv12
  obtain ⟨l2_12o, hl2_12o⟩ : ∃ y, y = ((0 : Int64) ||| ((v12.toUInt64 >>> ((6 : Int32) &&& 0x3f).toInt64.toUInt64).toInt64)) := ⟨_, rfl⟩
  rw [← hl2_12o] at V119 eo12
  refine s_iinc (pc' := 103) X118.here hx (v := (8 : Int32)) (l' := #[.val (.ref a), .val (.int o), .val (.ref rr), .val (.int ((96 : Int32) + (8 : Int32))), .val (.long v12), .second]) (hb hby own_d2_100) rfl rfl rfl rfl ?_
  refine s_goto (pc' := 6) X118.here hx (hb hby own_d2_103) (by decide) (by decide) ?_
  rw [show ((96 : Int32) + (8 : Int32)) = (104 : Int32) from by decide]
  refine s_iloadN (pc' := 7) X118.here hx (hb hby own_d2_6) rfl rfl ?_
  refine s_sipush (pc' := 10) X118.here hx (v := (255 : Int32)) (hb hby own_d2_7) rfl rfl ?_
  have hk123 : (104 : Int32) < (255 : Int32) := by decide
  refine s_icmpNo (pc' := 13) X118.here hx (hb hby own_d2_10) (tlt hk123).2.1 rfl ?_
  refine s_aloadN (pc' := 14) X118.here hx (hb hby own_d2_13) rfl rfl rfl ?_
  refine s_iloadN (pc' := 15) X118.here hx (hb hby own_d2_14) rfl rfl ?_
  refine s_iloadN (pc' := 16) X118.here hx (hb hby own_d2_15) rfl rfl ?_
  refine s_bipush (pc' := 18) X118.here hx (v := (8 : Int32)) (hb hby own_d2_16) rfl rfl ?_
  refine s_idiv (pc' := 19) X118.here hx (hb hby own_d2_18) (by decide) rfl ?_
  refine s_iadd (pc' := 20) X118.here hx (hb hby own_d2_19) rfl ?_
  rw [show ((104 : Int32) / (8 : Int32)) = (13 : Int32) from by decide]
  refine s_baload (pc' := 21) (v := (.int (bb 13))) X118 hx hZ e118 f120 ⟨ix13.1, ix13.2.1⟩ (by rw [ix13.2.2]; exact hbj 13 (by decide)) (hb hby own_d2_20) rfl ?_
  refine s_iloadN (pc' := 22) X118.here hx (hb hby own_d2_21) rfl rfl ?_
  refine s_sipush (pc' := 25) X118.here hx (v := (248 : Int32)) (hb hby own_d2_22) rfl rfl ?_
  have hk124 : ¬ ((104 : Int32) = (248 : Int32)) := by decide
  refine s_icmpYes (pc' := 33) X118.here hx (hb hby own_d2_25) (feq hk124).2 (by decide) (by decide) ?_
  refine s_sipush (pc' := 36) X118.here hx (v := (255 : Int32)) (hb hby own_d2_33) rfl rfl ?_
  refine s_iand (pc' := 37) X118.here hx (hb hby own_d2_36) rfl ?_
  refine s_i2l (pc' := 38) X118.here hx (hb hby own_d2_37) rfl ?_
  obtain ⟨v13, hv13⟩ : ∃ z : Int64, z = (((bb 13) &&& (255 : Int32)).toInt64) := ⟨_, rfl⟩
  rw [← hv13]
  have bv13 : v13.toInt = (bb 13 &&& (255 : Int32)).toInt := by rw [hv13, c_i2l]
  have rv13 : 0 ≤ v13.toInt ∧ v13.toInt < 256 := hv13 ▸ own_rv (bb 13)
  refine s_lstore (pc' := 40) X118.here hx (l' := #[.val (.ref a), .val (.int o), .val (.ref rr), .val (.int (104 : Int32)), .val (.long v13), .second]) (hb hby own_d2_38) rfl rfl ?_
  refine s_aloadN (pc' := 41) X118.here hx (hb hby own_d2_40) rfl rfl rfl ?_
  refine s_iloadN (pc' := 42) X118.here hx (hb hby own_d2_41) rfl rfl ?_
  refine s_bipush (pc' := 44) X118.here hx (v := (51 : Int32)) (hb hby own_d2_42) rfl rfl ?_
  refine s_idiv (pc' := 45) X118.here hx (hb hby own_d2_44) (by decide) rfl ?_
  refine s_dup2 (pc' := 46) X118.here hx (hb hby own_d2_45) rfl rfl rfl ?_
  rw [show ((104 : Int32) / (51 : Int32)) = (2 : Int32) from by decide]
  refine s_laload (pc' := 47) (v := (.long l2_12o)) X118 hx hZ e118 V119 ⟨by decide, by decide⟩ rfl (hb hby own_d2_46) rfl ?_
  refine s_lload (pc' := 49) X118.here hx (hb hby own_d2_47) rfl rfl ?_
  refine s_iloadN (pc' := 50) X118.here hx (hb hby own_d2_49) rfl rfl ?_
  refine s_bipush (pc' := 52) X118.here hx (v := (51 : Int32)) (hb hby own_d2_50) rfl rfl ?_
  refine s_irem (pc' := 53) X118 hx (hb hby own_d2_52) (by decide) rfl ?_
  refine s_lshl (pc' := 54) X118.here hx (hb hby own_d2_53) rfl ?_
  refine s_ldcJ (pc' := 57) X118 hx hZ hown (hw _ (List.mem_of_getElem? (i := 10) rfl)) (hb hby own_d2_54) rfl ?_
  refine s_land (pc' := 58) X118.here hx (hb hby own_d2_57) rfl ?_
  refine s_lor (pc' := 59) X118.here hx (hb hby own_d2_58) rfl ?_
  rw [show ((104 : Int32) % (51 : Int32)) = (2 : Int32) from by decide]
  refine s_putJ (pc' := 60) X118 hx hZ e118 V119 ⟨by decide, by decide⟩ 2 rfl (Nat.le_of_ble_eq_true rfl) (hb hby own_d2_59) rfl fun T125 hp125 X125 e125 W125 Vw125 => ?_
  have V126 : Arv Z hp125 rr ka1 .long (5 : Int32) [(.long l0_6), (.long l1_12), (.long (l2_12o ||| ((v13 <<< ((2 : Int32) &&& 0x3f).toInt64) &&& (2251799813685247 : Int64)))), (.long (0 : Int64)), (.long (0 : Int64))] (.long (0 : Int64)) := Vw125
  have N125 := Fr.snoc X125 N118 g_rr
  have f127 := f120.other W125 ne2
  have Z128 : n0 ≤ hp125.size := Nat.le_trans Z121 (Keep.of_wr W125).1
  have K129 : Keep h0 hp125 [] := K122.wr W125 (Or.inr sz_rr)
  have el13 := own_limb2 l2_12o v13 eo12.2 rv13
  obtain ⟨l2_13, hl2_13⟩ : ∃ y, y = (l2_12o ||| ((v13 <<< ((2 : Int32) &&& 0x3f).toInt64) &&& (2251799813685247 : Int64))) := ⟨_, rfl⟩
  rw [← hl2_13] at V126 el13
  refine s_iloadN (pc' := 61) X125.here hx (hb hby own_d2_60) rfl rfl ?_
  refine s_bipush (pc' := 63) X125.here hx (v := (51 : Int32)) (hb hby own_d2_61) rfl rfl ?_
  refine s_irem (pc' := 64) X125 hx (hb hby own_d2_63) (by decide) rfl ?_
  refine s_bipush (pc' := 66) X125.here hx (v := (43 : Int32)) (hb hby own_d2_64) rfl rfl ?_
  rw [show ((104 : Int32) % (51 : Int32)) = (2 : Int32) from by decide]
  have hk130 : ¬ ((43 : Int32) < (2 : Int32)) := by decide
  refine s_icmpYes (pc' := 100) X125.here hx (hb hby own_d2_66) (flt hk130).2.2.2 (by decide) (by decide) ?_
  refine s_iinc (pc' := 103) X125.here hx (v := (8 : Int32)) (l' := #[.val (.ref a), .val (.int o), .val (.ref rr), .val (.int ((104 : Int32) + (8 : Int32))), .val (.long v13), .second]) (hb hby own_d2_100) rfl rfl rfl rfl ?_
  refine s_goto (pc' := 6) X125.here hx (hb hby own_d2_103) (by decide) (by decide) ?_
  rw [show ((104 : Int32) + (8 : Int32)) = (112 : Int32) from by decide]
  refine s_iloadN (pc' := 7) X125.here hx (hb hby own_d2_6) rfl rfl ?_
  refine s_sipush (pc' := 10) X125.here hx (v := (255 : Int32)) (hb hby own_d2_7) rfl rfl ?_
  have hk131 : (112 : Int32) < (255 : Int32) := by decide
  refine s_icmpNo (pc' := 13) X125.here hx (hb hby own_d2_10) (tlt hk131).2.1 rfl ?_
  refine s_aloadN (pc' := 14) X125.here hx (hb hby own_d2_13) rfl rfl rfl ?_
  refine s_iloadN (pc' := 15) X125.here hx (hb hby own_d2_14) rfl rfl ?_
  refine s_iloadN (pc' := 16) X125.here hx (hb hby own_d2_15) rfl rfl ?_
  refine s_bipush (pc' := 18) X125.here hx (v := (8 : Int32)) (hb hby own_d2_16) rfl rfl ?_
  refine s_idiv (pc' := 19) X125.here hx (hb hby own_d2_18) (by decide) rfl ?_
  refine s_iadd (pc' := 20) X125.here hx (hb hby own_d2_19) rfl ?_
  rw [show ((112 : Int32) / (8 : Int32)) = (14 : Int32) from by decide]
  refine s_baload (pc' := 21) (v := (.int (bb 14))) X125 hx hZ e125 f127 ⟨ix14.1, ix14.2.1⟩ (by rw [ix14.2.2]; exact hbj 14 (by decide)) (hb hby own_d2_20) rfl ?_
  refine s_iloadN (pc' := 22) X125.here hx (hb hby own_d2_21) rfl rfl ?_
  refine s_sipush (pc' := 25) X125.here hx (v := (248 : Int32)) (hb hby own_d2_22) rfl rfl ?_
  have hk132 : ¬ ((112 : Int32) = (248 : Int32)) := by decide
  refine s_icmpYes (pc' := 33) X125.here hx (hb hby own_d2_25) (feq hk132).2 (by decide) (by decide) ?_
  refine s_sipush (pc' := 36) X125.here hx (v := (255 : Int32)) (hb hby own_d2_33) rfl rfl ?_
  refine s_iand (pc' := 37) X125.here hx (hb hby own_d2_36) rfl ?_
  refine s_i2l (pc' := 38) X125.here hx (hb hby own_d2_37) rfl ?_
  obtain ⟨v14, hv14⟩ : ∃ z : Int64, z = (((bb 14) &&& (255 : Int32)).toInt64) := ⟨_, rfl⟩
  rw [← hv14]
  have bv14 : v14.toInt = (bb 14 &&& (255 : Int32)).toInt := by rw [hv14, c_i2l]
  have rv14 : 0 ≤ v14.toInt ∧ v14.toInt < 256 := hv14 ▸ own_rv (bb 14)
  refine s_lstore (pc' := 40) X125.here hx (l' := #[.val (.ref a), .val (.int o), .val (.ref rr), .val (.int (112 : Int32)), .val (.long v14), .second]) (hb hby own_d2_38) rfl rfl ?_
  refine s_aloadN (pc' := 41) X125.here hx (hb hby own_d2_40) rfl rfl rfl ?_
  refine s_iloadN (pc' := 42) X125.here hx (hb hby own_d2_41) rfl rfl ?_
  refine s_bipush (pc' := 44) X125.here hx (v := (51 : Int32)) (hb hby own_d2_42) rfl rfl ?_
  refine s_idiv (pc' := 45) X125.here hx (hb hby own_d2_44) (by decide) rfl ?_
  refine s_dup2 (pc' := 46) X125.here hx (hb hby own_d2_45) rfl rfl rfl ?_
  rw [show ((112 : Int32) / (51 : Int32)) = (2 : Int32) from by decide]
  refine s_laload (pc' := 47) (v := (.long l2_13)) X125 hx hZ e125 V126 ⟨by decide, by decide⟩ rfl (hb hby own_d2_46) rfl ?_
  refine s_lload (pc' := 49) X125.here hx (hb hby own_d2_47) rfl rfl ?_
  refine s_iloadN (pc' := 50) X125.here hx (hb hby own_d2_49) rfl rfl ?_
  refine s_bipush (pc' := 52) X125.here hx (v := (51 : Int32)) (hb hby own_d2_50) rfl rfl ?_
  refine s_irem (pc' := 53) X125 hx (hb hby own_d2_52) (by decide) rfl ?_
  refine s_lshl (pc' := 54) X125.here hx (hb hby own_d2_53) rfl ?_
  refine s_ldcJ (pc' := 57) X125 hx hZ hown (hw _ (List.mem_of_getElem? (i := 10) rfl)) (hb hby own_d2_54) rfl ?_
  refine s_land (pc' := 58) X125.here hx (hb hby own_d2_57) rfl ?_
  refine s_lor (pc' := 59) X125.here hx (hb hby own_d2_58) rfl ?_
  rw [show ((112 : Int32) % (51 : Int32)) = (10 : Int32) from by decide]
  refine s_putJ (pc' := 60) X125 hx hZ e125 V126 ⟨by decide, by decide⟩ 2 rfl (Nat.le_of_ble_eq_true rfl) (hb hby own_d2_59) rfl fun T133 hp133 X133 e133 W133 Vw133 => ?_
  have V134 : Arv Z hp133 rr ka1 .long (5 : Int32) [(.long l0_6), (.long l1_12), (.long (l2_13 ||| ((v14 <<< ((10 : Int32) &&& 0x3f).toInt64) &&& (2251799813685247 : Int64)))), (.long (0 : Int64)), (.long (0 : Int64))] (.long (0 : Int64)) := Vw133
  have N133 := Fr.snoc X133 N125 g_rr
  have f135 := f127.other W133 ne2
  have Z136 : n0 ≤ hp133.size := Nat.le_trans Z128 (Keep.of_wr W133).1
  have K137 : Keep h0 hp133 [] := K129.wr W133 (Or.inr sz_rr)
  have el14 := own_limb10 l2_13 v14 el13.2 rv14
  obtain ⟨l2_14, hl2_14⟩ : ∃ y, y = (l2_13 ||| ((v14 <<< ((10 : Int32) &&& 0x3f).toInt64) &&& (2251799813685247 : Int64))) := ⟨_, rfl⟩
  rw [← hl2_14] at V134 el14
  refine s_iloadN (pc' := 61) X133.here hx (hb hby own_d2_60) rfl rfl ?_
  refine s_bipush (pc' := 63) X133.here hx (v := (51 : Int32)) (hb hby own_d2_61) rfl rfl ?_
  refine s_irem (pc' := 64) X133 hx (hb hby own_d2_63) (by decide) rfl ?_
  refine s_bipush (pc' := 66) X133.here hx (v := (43 : Int32)) (hb hby own_d2_64) rfl rfl ?_
  rw [show ((112 : Int32) % (51 : Int32)) = (10 : Int32) from by decide]
  have hk138 : ¬ ((43 : Int32) < (10 : Int32)) := by decide
  refine s_icmpYes (pc' := 100) X133.here hx (hb hby own_d2_66) (flt hk138).2.2.2 (by decide) (by decide) ?_
  refine s_iinc (pc' := 103) X133.here hx (v := (8 : Int32)) (l' := #[.val (.ref a), .val (.int o), .val (.ref rr), .val (.int ((112 : Int32) + (8 : Int32))), .val (.long v14), .second]) (hb hby own_d2_100) rfl rfl rfl rfl ?_
  refine s_goto (pc' := 6) X133.here hx (hb hby own_d2_103) (by decide) (by decide) ?_
  rw [show ((112 : Int32) + (8 : Int32)) = (120 : Int32) from by decide]
  refine s_iloadN (pc' := 7) X133.here hx (hb hby own_d2_6) rfl rfl ?_
  refine s_sipush (pc' := 10) X133.here hx (v := (255 : Int32)) (hb hby own_d2_7) rfl rfl ?_
  have hk139 : (120 : Int32) < (255 : Int32) := by decide
  refine s_icmpNo (pc' := 13) X133.here hx (hb hby own_d2_10) (tlt hk139).2.1 rfl ?_
  refine s_aloadN (pc' := 14) X133.here hx (hb hby own_d2_13) rfl rfl rfl ?_
  refine s_iloadN (pc' := 15) X133.here hx (hb hby own_d2_14) rfl rfl ?_
  refine s_iloadN (pc' := 16) X133.here hx (hb hby own_d2_15) rfl rfl ?_
  refine s_bipush (pc' := 18) X133.here hx (v := (8 : Int32)) (hb hby own_d2_16) rfl rfl ?_
  refine s_idiv (pc' := 19) X133.here hx (hb hby own_d2_18) (by decide) rfl ?_
  refine s_iadd (pc' := 20) X133.here hx (hb hby own_d2_19) rfl ?_
  rw [show ((120 : Int32) / (8 : Int32)) = (15 : Int32) from by decide]
  refine s_baload (pc' := 21) (v := (.int (bb 15))) X133 hx hZ e133 f135 ⟨ix15.1, ix15.2.1⟩ (by rw [ix15.2.2]; exact hbj 15 (by decide)) (hb hby own_d2_20) rfl ?_
  refine s_iloadN (pc' := 22) X133.here hx (hb hby own_d2_21) rfl rfl ?_
  refine s_sipush (pc' := 25) X133.here hx (v := (248 : Int32)) (hb hby own_d2_22) rfl rfl ?_
  have hk140 : ¬ ((120 : Int32) = (248 : Int32)) := by decide
  refine s_icmpYes (pc' := 33) X133.here hx (hb hby own_d2_25) (feq hk140).2 (by decide) (by decide) ?_
  refine s_sipush (pc' := 36) X133.here hx (v := (255 : Int32)) (hb hby own_d2_33) rfl rfl ?_
  refine s_iand (pc' := 37) X133.here hx (hb hby own_d2_36) rfl ?_
  refine s_i2l (pc' := 38) X133.here hx (hb hby own_d2_37) rfl ?_
  obtain ⟨v15, hv15⟩ : ∃ z : Int64, z = (((bb 15) &&& (255 : Int32)).toInt64) := ⟨_, rfl⟩
  rw [← hv15]
  have bv15 : v15.toInt = (bb 15 &&& (255 : Int32)).toInt := by rw [hv15, c_i2l]
  have rv15 : 0 ≤ v15.toInt ∧ v15.toInt < 256 := hv15 ▸ own_rv (bb 15)
  refine s_lstore (pc' := 40) X133.here hx (l' := #[.val (.ref a), .val (.int o), .val (.ref rr), .val (.int (120 : Int32)), .val (.long v15), .second]) (hb hby own_d2_38) rfl rfl ?_
  refine s_aloadN (pc' := 41) X133.here hx (hb hby own_d2_40) rfl rfl rfl ?_
  refine s_iloadN (pc' := 42) X133.here hx (hb hby own_d2_41) rfl rfl ?_
  refine s_bipush (pc' := 44) X133.here hx (v := (51 : Int32)) (hb hby own_d2_42) rfl rfl ?_
  refine s_idiv (pc' := 45) X133.here hx (hb hby own_d2_44) (by decide) rfl ?_
  refine s_dup2 (pc' := 46) X133.here hx (hb hby own_d2_45) rfl rfl rfl ?_
  rw [show ((120 : Int32) / (51 : Int32)) = (2 : Int32) from by decide]
  refine s_laload (pc' := 47) (v := (.long l2_14)) X133 hx hZ e133 V134 ⟨by decide, by decide⟩ rfl (hb hby own_d2_46) rfl ?_
  refine s_lload (pc' := 49) X133.here hx (hb hby own_d2_47) rfl rfl ?_
  refine s_iloadN (pc' := 50) X133.here hx (hb hby own_d2_49) rfl rfl ?_
  refine s_bipush (pc' := 52) X133.here hx (v := (51 : Int32)) (hb hby own_d2_50) rfl rfl ?_
  refine s_irem (pc' := 53) X133 hx (hb hby own_d2_52) (by decide) rfl ?_
  refine s_lshl (pc' := 54) X133.here hx (hb hby own_d2_53) rfl ?_
  refine s_ldcJ (pc' := 57) X133 hx hZ hown (hw _ (List.mem_of_getElem? (i := 10) rfl)) (hb hby own_d2_54) rfl ?_
  refine s_land (pc' := 58) X133.here hx (hb hby own_d2_57) rfl ?_
  refine s_lor (pc' := 59) X133.here hx (hb hby own_d2_58) rfl ?_
  rw [show ((120 : Int32) % (51 : Int32)) = (18 : Int32) from by decide]
  refine s_putJ (pc' := 60) X133 hx hZ e133 V134 ⟨by decide, by decide⟩ 2 rfl (Nat.le_of_ble_eq_true rfl) (hb hby own_d2_59) rfl fun T141 hp141 X141 e141 W141 Vw141 => ?_
  have V142 : Arv Z hp141 rr ka1 .long (5 : Int32) [(.long l0_6), (.long l1_12), (.long (l2_14 ||| ((v15 <<< ((18 : Int32) &&& 0x3f).toInt64) &&& (2251799813685247 : Int64)))), (.long (0 : Int64)), (.long (0 : Int64))] (.long (0 : Int64)) := Vw141
  have N141 := Fr.snoc X141 N133 g_rr
  have f143 := f135.other W141 ne2
  have Z144 : n0 ≤ hp141.size := Nat.le_trans Z136 (Keep.of_wr W141).1
  have K145 : Keep h0 hp141 [] := K137.wr W141 (Or.inr sz_rr)
  have el15 := own_limb18 l2_14 v15 el14.2 rv15
  obtain ⟨l2_15, hl2_15⟩ : ∃ y, y = (l2_14 ||| ((v15 <<< ((18 : Int32) &&& 0x3f).toInt64) &&& (2251799813685247 : Int64))) := ⟨_, rfl⟩
  rw [← hl2_15] at V142 el15
  refine s_iloadN (pc' := 61) X141.here hx (hb hby own_d2_60) rfl rfl ?_
  refine s_bipush (pc' := 63) X141.here hx (v := (51 : Int32)) (hb hby own_d2_61) rfl rfl ?_
  refine s_irem (pc' := 64) X141 hx (hb hby own_d2_63) (by decide) rfl ?_
  refine s_bipush (pc' := 66) X141.here hx (v := (43 : Int32)) (hb hby own_d2_64) rfl rfl ?_
  rw [show ((120 : Int32) % (51 : Int32)) = (18 : Int32) from by decide]
  have hk146 : ¬ ((43 : Int32) < (18 : Int32)) := by decide
  refine s_icmpYes (pc' := 100) X141.here hx (hb hby own_d2_66) (flt hk146).2.2.2 (by decide) (by decide) ?_
  refine s_iinc (pc' := 103) X141.here hx (v := (8 : Int32)) (l' := #[.val (.ref a), .val (.int o), .val (.ref rr), .val (.int ((120 : Int32) + (8 : Int32))), .val (.long v15), .second]) (hb hby own_d2_100) rfl rfl rfl rfl ?_
  refine s_goto (pc' := 6) X141.here hx (hb hby own_d2_103) (by decide) (by decide) ?_
  rw [show ((120 : Int32) + (8 : Int32)) = (128 : Int32) from by decide]
  refine s_iloadN (pc' := 7) X141.here hx (hb hby own_d2_6) rfl rfl ?_
  refine s_sipush (pc' := 10) X141.here hx (v := (255 : Int32)) (hb hby own_d2_7) rfl rfl ?_
  have hk147 : (128 : Int32) < (255 : Int32) := by decide
  refine s_icmpNo (pc' := 13) X141.here hx (hb hby own_d2_10) (tlt hk147).2.1 rfl ?_
  refine s_aloadN (pc' := 14) X141.here hx (hb hby own_d2_13) rfl rfl rfl ?_
  refine s_iloadN (pc' := 15) X141.here hx (hb hby own_d2_14) rfl rfl ?_
  refine s_iloadN (pc' := 16) X141.here hx (hb hby own_d2_15) rfl rfl ?_
  refine s_bipush (pc' := 18) X141.here hx (v := (8 : Int32)) (hb hby own_d2_16) rfl rfl ?_
  refine s_idiv (pc' := 19) X141.here hx (hb hby own_d2_18) (by decide) rfl ?_
  refine s_iadd (pc' := 20) X141.here hx (hb hby own_d2_19) rfl ?_
  rw [show ((128 : Int32) / (8 : Int32)) = (16 : Int32) from by decide]
  refine s_baload (pc' := 21) (v := (.int (bb 16))) X141 hx hZ e141 f143 ⟨ix16.1, ix16.2.1⟩ (by rw [ix16.2.2]; exact hbj 16 (by decide)) (hb hby own_d2_20) rfl ?_
  refine s_iloadN (pc' := 22) X141.here hx (hb hby own_d2_21) rfl rfl ?_
  refine s_sipush (pc' := 25) X141.here hx (v := (248 : Int32)) (hb hby own_d2_22) rfl rfl ?_
  have hk148 : ¬ ((128 : Int32) = (248 : Int32)) := by decide
  refine s_icmpYes (pc' := 33) X141.here hx (hb hby own_d2_25) (feq hk148).2 (by decide) (by decide) ?_
  refine s_sipush (pc' := 36) X141.here hx (v := (255 : Int32)) (hb hby own_d2_33) rfl rfl ?_
  refine s_iand (pc' := 37) X141.here hx (hb hby own_d2_36) rfl ?_
  refine s_i2l (pc' := 38) X141.here hx (hb hby own_d2_37) rfl ?_
  obtain ⟨v16, hv16⟩ : ∃ z : Int64, z = (((bb 16) &&& (255 : Int32)).toInt64) := ⟨_, rfl⟩
  rw [← hv16]
  have bv16 : v16.toInt = (bb 16 &&& (255 : Int32)).toInt := by rw [hv16, c_i2l]
  have rv16 : 0 ≤ v16.toInt ∧ v16.toInt < 256 := hv16 ▸ own_rv (bb 16)
  refine s_lstore (pc' := 40) X141.here hx (l' := #[.val (.ref a), .val (.int o), .val (.ref rr), .val (.int (128 : Int32)), .val (.long v16), .second]) (hb hby own_d2_38) rfl rfl ?_
  refine s_aloadN (pc' := 41) X141.here hx (hb hby own_d2_40) rfl rfl rfl ?_
  refine s_iloadN (pc' := 42) X141.here hx (hb hby own_d2_41) rfl rfl ?_
  refine s_bipush (pc' := 44) X141.here hx (v := (51 : Int32)) (hb hby own_d2_42) rfl rfl ?_
  refine s_idiv (pc' := 45) X141.here hx (hb hby own_d2_44) (by decide) rfl ?_
  refine s_dup2 (pc' := 46) X141.here hx (hb hby own_d2_45) rfl rfl rfl ?_
  rw [show ((128 : Int32) / (51 : Int32)) = (2 : Int32) from by decide]
  refine s_laload (pc' := 47) (v := (.long l2_15)) X141 hx hZ e141 V142 ⟨by decide, by decide⟩ rfl (hb hby own_d2_46) rfl ?_
  refine s_lload (pc' := 49) X141.here hx (hb hby own_d2_47) rfl rfl ?_
  refine s_iloadN (pc' := 50) X141.here hx (hb hby own_d2_49) rfl rfl ?_
  refine s_bipush (pc' := 52) X141.here hx (v := (51 : Int32)) (hb hby own_d2_50) rfl rfl ?_
  refine s_irem (pc' := 53) X141 hx (hb hby own_d2_52) (by decide) rfl ?_
  refine s_lshl (pc' := 54) X141.here hx (hb hby own_d2_53) rfl ?_
  refine s_ldcJ (pc' := 57) X141 hx hZ hown (hw _ (List.mem_of_getElem? (i := 10) rfl)) (hb hby own_d2_54) rfl ?_
  refine s_land (pc' := 58) X141.here hx (hb hby own_d2_57) rfl ?_
  refine s_lor (pc' := 59) X141.here hx (hb hby own_d2_58) rfl ?_
  rw [show ((128 : Int32) % (51 : Int32)) = (26 : Int32) from by decide]
  refine s_putJ (pc' := 60) X141 hx hZ e141 V142 ⟨by decide, by decide⟩ 2 rfl (Nat.le_of_ble_eq_true rfl) (hb hby own_d2_59) rfl fun T149 hp149 X149 e149 W149 Vw149 => ?_
  have V150 : Arv Z hp149 rr ka1 .long (5 : Int32) [(.long l0_6), (.long l1_12), (.long (l2_15 ||| ((v16 <<< ((26 : Int32) &&& 0x3f).toInt64) &&& (2251799813685247 : Int64)))), (.long (0 : Int64)), (.long (0 : Int64))] (.long (0 : Int64)) := Vw149
  have N149 := Fr.snoc X149 N141 g_rr
  have f151 := f143.other W149 ne2
  have Z152 : n0 ≤ hp149.size := Nat.le_trans Z144 (Keep.of_wr W149).1
  have K153 : Keep h0 hp149 [] := K145.wr W149 (Or.inr sz_rr)
  have el16 := own_limb26 l2_15 v16 el15.2 rv16
  obtain ⟨l2_16, hl2_16⟩ : ∃ y, y = (l2_15 ||| ((v16 <<< ((26 : Int32) &&& 0x3f).toInt64) &&& (2251799813685247 : Int64))) := ⟨_, rfl⟩
  rw [← hl2_16] at V150 el16
  refine s_iloadN (pc' := 61) X149.here hx (hb hby own_d2_60) rfl rfl ?_
  refine s_bipush (pc' := 63) X149.here hx (v := (51 : Int32)) (hb hby own_d2_61) rfl rfl ?_
  refine s_irem (pc' := 64) X149 hx (hb hby own_d2_63) (by decide) rfl ?_
  refine s_bipush (pc' := 66) X149.here hx (v := (43 : Int32)) (hb hby own_d2_64) rfl rfl ?_
  rw [show ((128 : Int32) % (51 : Int32)) = (26 : Int32) from by decide]
  have hk154 : ¬ ((43 : Int32) < (26 : Int32)) := by decide
  refine s_icmpYes (pc' := 100) X149.here hx (hb hby own_d2_66) (flt hk154).2.2.2 (by decide) (by decide) ?_
  refine s_iinc (pc' := 103) X149.here hx (v := (8 : Int32)) (l' := #[.val (.ref a), .val (.int o), .val (.ref rr), .val (.int ((128 : Int32) + (8 : Int32))), .val (.long v16), .second]) (hb hby own_d2_100) rfl rfl rfl rfl ?_
  refine s_goto (pc' := 6) X149.here hx (hb hby own_d2_103) (by decide) (by decide) ?_
  rw [show ((128 : Int32) + (8 : Int32)) = (136 : Int32) from by decide]
  refine s_iloadN (pc' := 7) X149.here hx (hb hby own_d2_6) rfl rfl ?_
  refine s_sipush (pc' := 10) X149.here hx (v := (255 : Int32)) (hb hby own_d2_7) rfl rfl ?_
  have hk155 : (136 : Int32) < (255 : Int32) := by decide
  refine s_icmpNo (pc' := 13) X149.here hx (hb hby own_d2_10) (tlt hk155).2.1 rfl ?_
  refine s_aloadN (pc' := 14) X149.here hx (hb hby own_d2_13) rfl rfl rfl ?_
  refine s_iloadN (pc' := 15) X149.here hx (hb hby own_d2_14) rfl rfl ?_
  refine s_iloadN (pc' := 16) X149.here hx (hb hby own_d2_15) rfl rfl ?_
  refine s_bipush (pc' := 18) X149.here hx (v := (8 : Int32)) (hb hby own_d2_16) rfl rfl ?_
  refine s_idiv (pc' := 19) X149.here hx (hb hby own_d2_18) (by decide) rfl ?_
  refine s_iadd (pc' := 20) X149.here hx (hb hby own_d2_19) rfl ?_
  rw [show ((136 : Int32) / (8 : Int32)) = (17 : Int32) from by decide]
  refine s_baload (pc' := 21) (v := (.int (bb 17))) X149 hx hZ e149 f151 ⟨ix17.1, ix17.2.1⟩ (by rw [ix17.2.2]; exact hbj 17 (by decide)) (hb hby own_d2_20) rfl ?_
  refine s_iloadN (pc' := 22) X149.here hx (hb hby own_d2_21) rfl rfl ?_
  refine s_sipush (pc' := 25) X149.here hx (v := (248 : Int32)) (hb hby own_d2_22) rfl rfl ?_
  have hk156 : ¬ ((136 : Int32) = (248 : Int32)) := by decide
  refine s_icmpYes (pc' := 33) X149.here hx (hb hby own_d2_25) (feq hk156).2 (by decide) (by decide) ?_
  refine s_sipush (pc' := 36) X149.here hx (v := (255 : Int32)) (hb hby own_d2_33) rfl rfl ?_
  refine s_iand (pc' := 37) X149.here hx (hb hby own_d2_36) rfl ?_
  refine s_i2l (pc' := 38) X149.here hx (hb hby own_d2_37) rfl ?_
  obtain ⟨v17, hv17⟩ : ∃ z : Int64, z = (((bb 17) &&& (255 : Int32)).toInt64) := ⟨_, rfl⟩
  rw [← hv17]
  have bv17 : v17.toInt = (bb 17 &&& (255 : Int32)).toInt := by rw [hv17, c_i2l]
  have rv17 : 0 ≤ v17.toInt ∧ v17.toInt < 256 := hv17 ▸ own_rv (bb 17)
  refine s_lstore (pc' := 40) X149.here hx (l' := #[.val (.ref a), .val (.int o), .val (.ref rr), .val (.int (136 : Int32)), .val (.long v17), .second]) (hb hby own_d2_38) rfl rfl ?_
  refine s_aloadN (pc' := 41) X149.here hx (hb hby own_d2_40) rfl rfl rfl ?_
  refine s_iloadN (pc' := 42) X149.here hx (hb hby own_d2_41) rfl rfl ?_
  refine s_bipush (pc' := 44) X149.here hx (v := (51 : Int32)) (hb hby own_d2_42) rfl rfl ?_
  refine s_idiv (pc' := 45) X149.here hx (hb hby own_d2_44) (by decide) rfl ?_
  refine s_dup2 (pc' := 46) X149.here hx (hb hby own_d2_45) rfl rfl rfl ?_
  rw [show ((136 : Int32) / (51 : Int32)) = (2 : Int32) from by decide]
  refine s_laload (pc' := 47) (v := (.long l2_16)) X149 hx hZ e149 V150 ⟨by decide, by decide⟩ rfl (hb hby own_d2_46) rfl ?_
  refine s_lload (pc' := 49) X149.here hx (hb hby own_d2_47) rfl rfl ?_
  refine s_iloadN (pc' := 50) X149.here hx (hb hby own_d2_49) rfl rfl ?_
  refine s_bipush (pc' := 52) X149.here hx (v := (51 : Int32)) (hb hby own_d2_50) rfl rfl ?_
  refine s_irem (pc' := 53) X149 hx (hb hby own_d2_52) (by decide) rfl ?_
  refine s_lshl (pc' := 54) X149.here hx (hb hby own_d2_53) rfl ?_
  refine s_ldcJ (pc' := 57) X149 hx hZ hown (hw _ (List.mem_of_getElem? (i := 10) rfl)) (hb hby own_d2_54) rfl ?_
  refine s_land (pc' := 58) X149.here hx (hb hby own_d2_57) rfl ?_
  refine s_lor (pc' := 59) X149.here hx (hb hby own_d2_58) rfl ?_
  rw [show ((136 : Int32) % (51 : Int32)) = (34 : Int32) from by decide]
  refine s_putJ (pc' := 60) X149 hx hZ e149 V150 ⟨by decide, by decide⟩ 2 rfl (Nat.le_of_ble_eq_true rfl) (hb hby own_d2_59) rfl fun T157 hp157 X157 e157 W157 Vw157 => ?_
  have V158 : Arv Z hp157 rr ka1 .long (5 : Int32) [(.long l0_6), (.long l1_12), (.long (l2_16 ||| ((v17 <<< ((34 : Int32) &&& 0x3f).toInt64) &&& (2251799813685247 : Int64)))), (.long (0 : Int64)), (.long (0 : Int64))] (.long (0 : Int64)) := Vw157
  have N157 := Fr.snoc X157 N149 g_rr
  have f159 := f151.other W157 ne2
  have Z160 : n0 ≤ hp157.size := Nat.le_trans Z152 (Keep.of_wr W157).1
  have K161 : Keep h0 hp157 [] := K153.wr W157 (Or.inr sz_rr)
  have el17 := own_limb34 l2_16 v17 el16.2 rv17
  obtain ⟨l2_17, hl2_17⟩ : ∃ y, y = (l2_16 ||| ((v17 <<< ((34 : Int32) &&& 0x3f).toInt64) &&& (2251799813685247 : Int64))) := ⟨_, rfl⟩
  rw [← hl2_17] at V158 el17
  refine s_iloadN (pc' := 61) X157.here hx (hb hby own_d2_60) rfl rfl ?_
  refine s_bipush (pc' := 63) X157.here hx (v := (51 : Int32)) (hb hby own_d2_61) rfl rfl ?_
  refine s_irem (pc' := 64) X157 hx (hb hby own_d2_63) (by decide) rfl ?_
  refine s_bipush (pc' := 66) X157.here hx (v := (43 : Int32)) (hb hby own_d2_64) rfl rfl ?_
  rw [show ((136 : Int32) % (51 : Int32)) = (34 : Int32) from by decide]
  have hk162 : ¬ ((43 : Int32) < (34 : Int32)) := by decide
  refine s_icmpYes (pc' := 100) X157.here hx (hb hby own_d2_66) (flt hk162).2.2.2 (by decide) (by decide) ?_
  refine s_iinc (pc' := 103) X157.here hx (v := (8 : Int32)) (l' := #[.val (.ref a), .val (.int o), .val (.ref rr), .val (.int ((136 : Int32) + (8 : Int32))), .val (.long v17), .second]) (hb hby own_d2_100) rfl rfl rfl rfl ?_
  refine s_goto (pc' := 6) X157.here hx (hb hby own_d2_103) (by decide) (by decide) ?_
  rw [show ((136 : Int32) + (8 : Int32)) = (144 : Int32) from by decide]
  refine s_iloadN (pc' := 7) X157.here hx (hb hby own_d2_6) rfl rfl ?_
  refine s_sipush (pc' := 10) X157.here hx (v := (255 : Int32)) (hb hby own_d2_7) rfl rfl ?_
  have hk163 : (144 : Int32) < (255 : Int32) := by decide
  refine s_icmpNo (pc' := 13) X157.here hx (hb hby own_d2_10) (tlt hk163).2.1 rfl ?_
  refine s_aloadN (pc' := 14) X157.here hx (hb hby own_d2_13) rfl rfl rfl ?_
  refine s_iloadN (pc' := 15) X157.here hx (hb hby own_d2_14) rfl rfl ?_
  refine s_iloadN (pc' := 16) X157.here hx (hb hby own_d2_15) rfl rfl ?_
  refine s_bipush (pc' := 18) X157.here hx (v := (8 : Int32)) (hb hby own_d2_16) rfl rfl ?_
  refine s_idiv (pc' := 19) X157.here hx (hb hby own_d2_18) (by decide) rfl ?_
  refine s_iadd (pc' := 20) X157.here hx (hb hby own_d2_19) rfl ?_
  rw [show ((144 : Int32) / (8 : Int32)) = (18 : Int32) from by decide]
  refine s_baload (pc' := 21) (v := (.int (bb 18))) X157 hx hZ e157 f159 ⟨ix18.1, ix18.2.1⟩ (by rw [ix18.2.2]; exact hbj 18 (by decide)) (hb hby own_d2_20) rfl ?_
  refine s_iloadN (pc' := 22) X157.here hx (hb hby own_d2_21) rfl rfl ?_
  refine s_sipush (pc' := 25) X157.here hx (v := (248 : Int32)) (hb hby own_d2_22) rfl rfl ?_
  have hk164 : ¬ ((144 : Int32) = (248 : Int32)) := by decide
  refine s_icmpYes (pc' := 33) X157.here hx (hb hby own_d2_25) (feq hk164).2 (by decide) (by decide) ?_
  refine s_sipush (pc' := 36) X157.here hx (v := (255 : Int32)) (hb hby own_d2_33) rfl rfl ?_
  refine s_iand (pc' := 37) X157.here hx (hb hby own_d2_36) rfl ?_
  refine s_i2l (pc' := 38) X157.here hx (hb hby own_d2_37) rfl ?_
  obtain ⟨v18, hv18⟩ : ∃ z : Int64, z = (((bb 18) &&& (255 : Int32)).toInt64) := ⟨_, rfl⟩
  rw [← hv18]
  have bv18 : v18.toInt = (bb 18 &&& (255 : Int32)).toInt := by rw [hv18, c_i2l]
  have rv18 : 0 ≤ v18.toInt ∧ v18.toInt < 256 := hv18 ▸ own_rv (bb 18)
  refine s_lstore (pc' := 40) X157.here hx (l' := #[.val (.ref a), .val (.int o), .val (.ref rr), .val (.int (144 : Int32)), .val (.long v18), .second]) (hb hby own_d2_38) rfl rfl ?_
  refine s_aloadN (pc' := 41) X157.here hx (hb hby own_d2_40) rfl rfl rfl ?_
  refine s_iloadN (pc' := 42) X157.here hx (hb hby own_d2_41) rfl rfl ?_
  refine s_bipush (pc' := 44) X157.here hx (v := (51 : Int32)) (hb hby own_d2_42) rfl rfl ?_
  refine s_idiv (pc' := 45) X157.here hx (hb hby own_d2_44) (by decide) rfl ?_
  refine s_dup2 (pc' := 46) X157.here hx (hb hby own_d2_45) rfl rfl rfl ?_
  rw [show ((144 : Int32) / (51 : Int32)) = (2 : Int32) from by decide]
  refine s_laload (pc' := 47) (v := (.long l2_17)) X157 hx hZ e157 V158 ⟨by decide, by decide⟩ rfl (hb hby own_d2_46) rfl ?_
  refine s_lload (pc' := 49) X157.here hx (hb hby own_d2_47) rfl rfl ?_
  refine s_iloadN (pc' := 50) X157.here hx (hb hby own_d2_49) rfl rfl ?_
  refine s_bipush (pc' := 52) X157.here hx (v := (51 : Int32)) (hb hby own_d2_50) rfl rfl ?_
  refine s_irem (pc' := 53) X157 hx (hb hby own_d2_52) (by decide) rfl ?_
  refine s_lshl (pc' := 54) X157.here hx (hb hby own_d2_53) rfl ?_
  refine s_ldcJ (pc' := 57) X157 hx hZ hown (hw _ (List.mem_of_getElem? (i := 10) rfl)) (hb hby own_d2_54) rfl ?_
  refine s_land (pc' := 58) X157.here hx (hb hby own_d2_57) rfl ?_
  refine s_lor (pc' := 59) X157.here hx (hb hby own_d2_58) rfl ?_
  rw [show ((144 : Int32) % (51 : Int32)) = (42 : Int32) from by decide]
  refine s_putJ (pc' := 60) X157 hx hZ e157 V158 ⟨by decide, by decide⟩ 2 rfl (Nat.le_of_ble_eq_true rfl) (hb hby own_d2_59) rfl fun T165 hp165 X165 e165 W165 Vw165 => ?_
  have V166 : Arv Z hp165 rr ka1 .long (5 : Int32) [(.long l0_6), (.long l1_12), (.long (l2_17 ||| ((v18 <<< ((42 : Int32) &&& 0x3f).toInt64) &&& (2251799813685247 : Int64)))), (.long (0 : Int64)), (.long (0 : Int64))] (.long (0 : Int64)) := Vw165
  have N165 := Fr.snoc X165 N157 g_rr
  have f167 := f159.other W165 ne2
  have Z168 : n0 ≤ hp165.size := Nat.le_trans Z160 (Keep.of_wr W165).1
  have K169 : Keep h0 hp165 [] := K161.wr W165 (Or.inr sz_rr)
  have el18 := own_limb42 l2_17 v18 el17.2 rv18
  obtain ⟨l2_18, hl2_18⟩ : ∃ y, y = (l2_17 ||| ((v18 <<< ((42 : Int32) &&& 0x3f).toInt64) &&& (2251799813685247 : Int64))) := ⟨_, rfl⟩
  rw [← hl2_18] at V166 el18
  refine s_iloadN (pc' := 61) X165.here hx (hb hby own_d2_60) rfl rfl ?_
  refine s_bipush (pc' := 63) X165.here hx (v := (51 : Int32)) (hb hby own_d2_61) rfl rfl ?_
  refine s_irem (pc' := 64) X165 hx (hb hby own_d2_63) (by decide) rfl ?_
  refine s_bipush (pc' := 66) X165.here hx (v := (43 : Int32)) (hb hby own_d2_64) rfl rfl ?_
  rw [show ((144 : Int32) % (51 : Int32)) = (42 : Int32) from by decide]
  have hk170 : ¬ ((43 : Int32) < (42 : Int32)) := by decide
  refine s_icmpYes (pc' := 100) X165.here hx (hb hby own_d2_66) (flt hk170).2.2.2 (by decide) (by decide) ?_
  refine s_iinc (pc' := 103) X165.here hx (v := (8 : Int32)) (l' := #[.val (.ref a), .val (.int o), .val (.ref rr), .val (.int ((144 : Int32) + (8 : Int32))), .val (.long v18), .second]) (hb hby own_d2_100) rfl rfl rfl rfl ?_
  refine s_goto (pc' := 6) X165.here hx (hb hby own_d2_103) (by decide) (by decide) ?_
  rw [show ((144 : Int32) + (8 : Int32)) = (152 : Int32) from by decide]
  refine s_iloadN (pc' := 7) X165.here hx (hb hby own_d2_6) rfl rfl ?_
  refine s_sipush (pc' := 10) X165.here hx (v := (255 : Int32)) (hb hby own_d2_7) rfl rfl ?_
  have hk171 : (152 : Int32) < (255 : Int32) := by decide
  refine s_icmpNo (pc' := 13) X165.here hx (hb hby own_d2_10) (tlt hk171).2.1 rfl ?_
  refine s_aloadN (pc' := 14) X165.here hx (hb hby own_d2_13) rfl rfl rfl ?_
  refine s_iloadN (pc' := 15) X165.here hx (hb hby own_d2_14) rfl rfl ?_
  refine s_iloadN (pc' := 16) X165.here hx (hb hby own_d2_15) rfl rfl ?_
  refine s_bipush (pc' := 18) X165.here hx (v := (8 : Int32)) (hb hby own_d2_16) rfl rfl ?_
  refine s_idiv (pc' := 19) X165.here hx (hb hby own_d2_18) (by decide) rfl ?_
  refine s_iadd (pc' := 20) X165.here hx (hb hby own_d2_19) rfl ?_
  rw [show ((152 : Int32) / (8 : Int32)) = (19 : Int32) from by decide]
  refine s_baload (pc' := 21) (v := (.int (bb 19))) X165 hx hZ e165 f167 ⟨ix19.1, ix19.2.1⟩ (by rw [ix19.2.2]; exact hbj 19 (by decide)) (hb hby own_d2_20) rfl ?_
  refine s_iloadN (pc' := 22) X165.here hx (hb hby own_d2_21) rfl rfl ?_
  refine s_sipush (pc' := 25) X165.here hx (v := (248 : Int32)) (hb hby own_d2_22) rfl rfl ?_
  have hk172 : ¬ ((152 : Int32) = (248 : Int32)) := by decide
  refine s_icmpYes (pc' := 33) X165.here hx (hb hby own_d2_25) (feq hk172).2 (by decide) (by decide) ?_
  refine s_sipush (pc' := 36) X165.here hx (v := (255 : Int32)) (hb hby own_d2_33) rfl rfl ?_
  refine s_iand (pc' := 37) X165.here hx (hb hby own_d2_36) rfl ?_
  refine s_i2l (pc' := 38) X165.here hx (hb hby own_d2_37) rfl ?_
  obtain ⟨v19, hv19⟩ : ∃ z : Int64, z = (((bb 19) &&& (255 : Int32)).toInt64) := ⟨_, rfl⟩
  rw [← hv19]
  have bv19 : v19.toInt = (bb 19 &&& (255 : Int32)).toInt := by rw [hv19, c_i2l]
  have rv19 : 0 ≤ v19.toInt ∧ v19.toInt < 256 := hv19 ▸ own_rv (bb 19)
  refine s_lstore (pc' := 40) X165.here hx (l' := #[.val (.ref a), .val (.int o), .val (.ref rr), .val (.int (152 : Int32)), .val (.long v19), .second]) (hb hby own_d2_38) rfl rfl ?_
  refine s_aloadN (pc' := 41) X165.here hx (hb hby own_d2_40) rfl rfl rfl ?_
  refine s_iloadN (pc' := 42) X165.here hx (hb hby own_d2_41) rfl rfl ?_
  refine s_bipush (pc' := 44) X165.here hx (v := (51 : Int32)) (hb hby own_d2_42) rfl rfl ?_
  refine s_idiv (pc' := 45) X165.here hx (hb hby own_d2_44) (by decide) rfl ?_
  refine s_dup2 (pc' := 46) X165.here hx (hb hby own_d2_45) rfl rfl rfl ?_
  rw [show ((152 : Int32) / (51 : Int32)) = (2 : Int32) from by decide]
  refine s_laload (pc' := 47) (v := (.long l2_18)) X165 hx hZ e165 V166 ⟨by decide, by decide⟩ rfl (hb hby own_d2_46) rfl ?_
  refine s_lload (pc' := 49) X165.here hx (hb hby own_d2_47) rfl rfl ?_
  refine s_iloadN (pc' := 50) X165.here hx (hb hby own_d2_49) rfl rfl ?_
  refine s_bipush (pc' := 52) X165.here hx (v := (51 : Int32)) (hb hby own_d2_50) rfl rfl ?_
  refine s_irem (pc' := 53) X165 hx (hb hby own_d2_52) (by decide) rfl ?_
  refine s_lshl (pc' := 54) X165.here hx (hb hby own_d2_53) rfl ?_
  refine s_ldcJ (pc' := 57) X165 hx hZ hown (hw _ (List.mem_of_getElem? (i := 10) rfl)) (hb hby own_d2_54) rfl ?_
  refine s_land (pc' := 58) X165.here hx (hb hby own_d2_57) rfl ?_
  refine s_lor (pc' := 59) X165.here hx (hb hby own_d2_58) rfl ?_
  rw [show ((152 : Int32) % (51 : Int32)) = (50 : Int32) from by decide]
  refine s_putJ (pc' := 60) X165 hx hZ e165 V166 ⟨by decide, by decide⟩ 2 rfl (Nat.le_of_ble_eq_true rfl) (hb hby own_d2_59) rfl fun T173 hp173 X173 e173 W173 Vw173 => ?_
  have V174 : Arv Z hp173 rr ka1 .long (5 : Int32) [(.long l0_6), (.long l1_12), (.long (l2_18 ||| ((v19 <<< ((50 : Int32) &&& 0x3f).toInt64) &&& (2251799813685247 : Int64)))), (.long (0 : Int64)), (.long (0 : Int64))] (.long (0 : Int64)) := Vw173
  have N173 := Fr.snoc X173 N165 g_rr
  have f175 := f167.other W173 ne2
  have Z176 : n0 ≤ hp173.size := Nat.le_trans Z168 (Keep.of_wr W173).1
  have K177 : Keep h0 hp173 [] := K169.wr W173 (Or.inr sz_rr)
  have el19 := own_limb50 l2_18 v19 el18.2 rv19
  obtain ⟨l2_19, hl2_19⟩ : ∃ y, y = (l2_18 ||| ((v19 <<< ((50 : Int32) &&& 0x3f).toInt64) &&& (2251799813685247 : Int64))) := ⟨_, rfl⟩
  rw [← hl2_19] at V174 el19
  refine s_iloadN (pc' := 61) X173.here hx (hb hby own_d2_60) rfl rfl ?_
  refine s_bipush (pc' := 63) X173.here hx (v := (51 : Int32)) (hb hby own_d2_61) rfl rfl ?_
  refine s_irem (pc' := 64) X173 hx (hb hby own_d2_63) (by decide) rfl ?_
  refine s_bipush (pc' := 66) X173.here hx (v := (43 : Int32)) (hb hby own_d2_64) rfl rfl ?_
  rw [show ((152 : Int32) % (51 : Int32)) = (50 : Int32) from by decide]
  have hk178 : (43 : Int32) < (50 : Int32) := by decide
  refine s_icmpNo (pc' := 69) X173.here hx (hb hby own_d2_66) (tlt hk178).2.2.2 rfl ?_
  refine s_iloadN (pc' := 70) X173.here hx (hb hby own_d2_69) rfl rfl ?_
  refine s_bipush (pc' := 72) X173.here hx (v := (51 : Int32)) (hb hby own_d2_70) rfl rfl ?_
  refine s_idiv (pc' := 73) X173.here hx (hb hby own_d2_72) (by decide) rfl ?_
  refine s_iconst (pc' := 74) X173.here hx (v := (1 : Int32)) (hb hby own_d2_73) rfl rfl ?_
  refine s_iadd (pc' := 75) X173.here hx (hb hby own_d2_74) rfl ?_
  refine s_iconst (pc' := 76) X173.here hx (v := (5 : Int32)) (hb hby own_d2_75) rfl rfl ?_
  rw [show (((152 : Int32) / (51 : Int32)) + (1 : Int32)) = (3 : Int32) from by decide]
  have hk179 : (3 : Int32) < (5 : Int32) := by decide
  refine s_icmpNo (pc' := 79) X173.here hx (hb hby own_d2_76) (tlt hk179).2.1 rfl ?_
  refine s_aloadN (pc' := 80) X173.here hx (hb hby own_d2_79) rfl rfl rfl ?_
  refine s_iloadN (pc' := 81) X173.here hx (hb hby own_d2_80) rfl rfl ?_
  refine s_bipush (pc' := 83) X173.here hx (v := (51 : Int32)) (hb hby own_d2_81) rfl rfl ?_
  refine s_idiv (pc' := 84) X173.here hx (hb hby own_d2_83) (by decide) rfl ?_
  refine s_iconst (pc' := 85) X173.here hx (v := (1 : Int32)) (hb hby own_d2_84) rfl rfl ?_
  refine s_iadd (pc' := 86) X173.here hx (hb hby own_d2_85) rfl ?_
  refine s_dup2 (pc' := 87) X173.here hx (hb hby own_d2_86) rfl rfl rfl ?_
  rw [show (((152 : Int32) / (51 : Int32)) + (1 : Int32)) = (3 : Int32) from by decide]
  refine s_laload (pc' := 88) (v := (.long (0 : Int64))) X173 hx hZ e173 V174 ⟨by decide, by decide⟩ rfl (hb hby own_d2_87) rfl ?_
  refine s_lload (pc' := 90) X173.here hx (hb hby own_d2_88) rfl rfl ?_
  refine s_bipush (pc' := 92) X173.here hx (v := (51 : Int32)) (hb hby own_d2_90) rfl rfl ?_
  refine s_iloadN (pc' := 93) X173.here hx (hb hby own_d2_92) rfl rfl ?_
  refine s_bipush (pc' := 95) X173.here hx (v := (51 : Int32)) (hb hby own_d2_93) rfl rfl ?_
  refine s_irem (pc' := 96) X173 hx (hb hby own_d2_95) (by decide) rfl ?_
  refine s_isub (pc' := 97) X173.here hx (hb hby own_d2_96) rfl ?_
  refine s_lushr (pc' := 98) X173.here hx (hb hby own_d2_97) rfl ?_
  refine s_lor (pc' := 99) X173.here hx (hb hby own_d2_98) rfl ?_
  rw [show ((51 : Int32) - ((152 : Int32) % (51 : Int32))) = (1 : Int32) from by decide]
  refine s_putJ (pc' := 100) X173 hx hZ e173 V174 ⟨by decide, by decide⟩ 3 rfl (Nat.le_of_ble_eq_true rfl) (hb hby own_d2_99) rfl fun T180 hp180 X180 e180 W180 Vw180 => ?_
  have V181 : Arv Z hp180 rr ka1 .long (5 : Int32) [(.long l0_6), (.long l1_12), (.long l2_19), (.long ((0 : Int64) ||| ((v19.toUInt64 >>> ((1 : Int32) &&& 0x3f).toInt64.toUInt64).toInt64))), (.long (0 : Int64))] (.long (0 : Int64)) := Vw180
  have N180 := Fr.snoc X180 N173 g_rr
  have f182 := f175.other W180 ne2
  have Z183 : n0 ≤ hp180.size := Nat.le_trans Z176 (Keep.of_wr W180).1
  have K184 : Keep h0 hp180 [] := K177.wr W180 (Or.inr sz_rr)
  have eo19 := own_over1 v19 rv19
  obtain ⟨l3_19o, hl3_19o⟩ : ∃ y, y = ((0 : Int64) ||| ((v19.toUInt64 >>> ((1 : Int32) &&& 0x3f).toInt64.toUInt64).toInt64)) := ⟨_, rfl⟩
  rw [← hl3_19o] at V181 eo19
  refine s_iinc (pc' := 103) X180.here hx (v := (8 : Int32)) (l' := #[.val (.ref a), .val (.int o), .val (.ref rr), .val (.int ((152 : Int32) + (8 : Int32))), .val (.long v19), .second]) (hb hby own_d2_100) rfl rfl rfl rfl ?_
  refine s_goto (pc' := 6) X180.here hx (hb hby own_d2_103) (by decide) (by decide) ?_
  rw [show ((152 : Int32) + (8 : Int32)) = (160 : Int32) from by decide]
  refine s_iloadN (pc' := 7) X180.here hx (hb hby own_d2_6) rfl rfl ?_
  refine s_sipush (pc' := 10) X180.here hx (v := (255 : Int32)) (hb hby own_d2_7) rfl rfl ?_
  have hk185 : (160 : Int32) < (255 : Int32) := by decide
  refine s_icmpNo (pc' := 13) X180.here hx (hb hby own_d2_10) (tlt hk185).2.1 rfl ?_
  refine s_aloadN (pc' := 14) X180.here hx (hb hby own_d2_13) rfl rfl rfl ?_
  refine s_iloadN (pc' := 15) X180.here hx (hb hby own_d2_14) rfl rfl ?_
  refine s_iloadN (pc' := 16) X180.here hx (hb hby own_d2_15) rfl rfl ?_
  refine s_bipush (pc' := 18) X180.here hx (v := (8 : Int32)) (hb hby own_d2_16) rfl rfl ?_
  refine s_idiv (pc' := 19) X180.here hx (hb hby own_d2_18) (by decide) rfl ?_
  refine s_iadd (pc' := 20) X180.here hx (hb hby own_d2_19) rfl ?_
  rw [show ((160 : Int32) / (8 : Int32)) = (20 : Int32) from by decide]
  refine s_baload (pc' := 21) (v := (.int (bb 20))) X180 hx hZ e180 f182 ⟨ix20.1, ix20.2.1⟩ (by rw [ix20.2.2]; exact hbj 20 (by decide)) (hb hby own_d2_20) rfl ?_
  refine s_iloadN (pc' := 22) X180.here hx (hb hby own_d2_21) rfl rfl ?_
  refine s_sipush (pc' := 25) X180.here hx (v := (248 : Int32)) (hb hby own_d2_22) rfl rfl ?_
  have hk186 : ¬ ((160 : Int32) = (248 : Int32)) := by decide
  refine s_icmpYes (pc' := 33) X180.here hx (hb hby own_d2_25) (feq hk186).2 (by decide) (by decide) ?_
  refine s_sipush (pc' := 36) X180.here hx (v := (255 : Int32)) (hb hby own_d2_33) rfl rfl ?_
  refine s_iand (pc' := 37) X180.here hx (hb hby own_d2_36) rfl ?_
  refine s_i2l (pc' := 38) X180.here hx (hb hby own_d2_37) rfl ?_
  obtain ⟨v20, hv20⟩ : ∃ z : Int64, z = (((bb 20) &&& (255 : Int32)).toInt64) := ⟨_, rfl⟩
  rw [← hv20]
  have bv20 : v20.toInt = (bb 20 &&& (255 : Int32)).toInt := by rw [hv20, c_i2l]
  have rv20 : 0 ≤ v20.toInt ∧ v20.toInt < 256 := hv20 ▸ own_rv (bb 20)
  refine s_lstore (pc' := 40) X180.here hx (l' := #[.val (.ref a), .val (.int o), .val (.ref rr), .val (.int (160 : Int32)), .val (.long v20), .second]) (hb hby own_d2_38) rfl rfl ?_
  refine s_aloadN (pc' := 41) X180.here hx (hb hby own_d2_40) rfl rfl rfl ?_
  refine s_iloadN (pc' := 42) X180.here hx (hb hby own_d2_41) rfl rfl ?_
  refine s_bipush (pc' := 44) X180.here hx (v := (51 : Int32)) (hb hby own_d2_42) rfl rfl ?_
  refine s_idiv (pc' := 45) X180.here hx (hb hby own_d2_44) (by decide) rfl ?_
  refine s_dup2 (pc' := 46) X180.here hx (hb hby own_d2_45) rfl rfl rfl ?_
  rw [show ((160 : Int32) / (51 : Int32)) = (3 : Int32) from by decide]
  refine s_laload (pc' := 47) (v := (.long l3_19o)) X180 hx hZ e180 V181 ⟨by decide, by decide⟩ rfl (hb hby own_d2_46) rfl ?_
  refine s_lload (pc' := 49) X180.here hx (hb hby own_d2_47) rfl rfl ?_
  refine s_iloadN (pc' := 50) X180.here hx (hb hby own_d2_49) rfl rfl ?_
  refine s_bipush (pc' := 52) X180.here hx (v := (51 : Int32)) (hb hby own_d2_50) rfl rfl ?_
  refine s_irem (pc' := 53) X180 hx (hb hby own_d2_52) (by decide) rfl ?_
  refine s_lshl (pc' := 54) X180.here hx (hb hby own_d2_53) rfl ?_
  refine s_ldcJ (pc' := 57) X180 hx hZ hown (hw _ (List.mem_of_getElem? (i := 10) rfl)) (hb hby own_d2_54) rfl ?_
  refine s_land (pc' := 58) X180.here hx (hb hby own_d2_57) rfl ?_
  refine s_lor (pc' := 59) X180.here hx (hb hby own_d2_58) rfl ?_
  rw [show ((160 : Int32) % (51 : Int32)) = (7 : Int32) from by decide]
  refine s_putJ (pc' := 60) X180 hx hZ e180 V181 ⟨by decide, by decide⟩ 3 rfl (Nat.le_of_ble_eq_true rfl) (hb hby own_d2_59) rfl fun T187 hp187 X187 e187 W187 Vw187 => ?_
  have V188 : Arv Z hp187 rr ka1 .long (5 : Int32) [(.long l0_6), (.long l1_12), (.long l2_19), (.long (l3_19o ||| ((v20 <<< ((7 : Int32) &&& 0x3f).toInt64) &&& (2251799813685247 : Int64)))), (.long (0 : Int64))] (.long (0 : Int64)) := Vw187
  have N187 := Fr.snoc X187 N180 g_rr
  have f189 := f182.other W187 ne2
  have Z190 : n0 ≤ hp187.size := Nat.le_trans Z183 (Keep.of_wr W187).1
  have K191 : Keep h0 hp187 [] := K184.wr W187 (Or.inr sz_rr)
  have el20 := own_limb7 l3_19o v20 eo19.2 rv20
  obtain ⟨l3_20, hl3_20⟩ : ∃ y, y = (l3_19o ||| ((v20 <<< ((7 : Int32) &&& 0x3f).toInt64) &&& (2251799813685247 : Int64))) := ⟨_, rfl⟩
  rw [← hl3_20] at V188 el20
  refine s_iloadN (pc' := 61) X187.here hx (hb hby own_d2_60) rfl rfl ?_
  refine s_bipush (pc' := 63) X187.here hx (v := (51 : Int32)) (hb hby own_d2_61) rfl rfl ?_
  refine s_irem (pc' := 64) X187 hx (hb hby own_d2_63) (by decide) rfl ?_
  refine s_bipush (pc' := 66) X187.here hx (v := (43 : Int32)) (hb hby own_d2_64) rfl rfl ?_
  rw [show ((160 : Int32) % (51 : Int32)) = (7 : Int32) from by decide]
  have hk192 : ¬ ((43 : Int32) < (7 : Int32)) := by decide
  refine s_icmpYes (pc' := 100) X187.here hx (hb hby own_d2_66) (flt hk192).2.2.2 (by decide) (by decide) ?_
  refine s_iinc (pc' := 103) X187.here hx (v := (8 : Int32)) (l' := #[.val (.ref a), .val (.int o), .val (.ref rr), .val (.int ((160 : Int32) + (8 : Int32))), .val (.long v20), .second]) (hb hby own_d2_100) rfl rfl rfl rfl ?_
  refine s_goto (pc' := 6) X187.here hx (hb hby own_d2_103) (by decide) (by decide) ?_
  rw [show ((160 : Int32) + (8 : Int32)) = (168 : Int32) from by decide]
  refine s_iloadN (pc' := 7) X187.here hx (hb hby own_d2_6) rfl rfl ?_
  refine s_sipush (pc' := 10) X187.here hx (v := (255 : Int32)) (hb hby own_d2_7) rfl rfl ?_
  have hk193 : (168 : Int32) < (255 : Int32) := by decide
  refine s_icmpNo (pc' := 13) X187.here hx (hb hby own_d2_10) (tlt hk193).2.1 rfl ?_
  refine s_aloadN (pc' := 14) X187.here hx (hb hby own_d2_13) rfl rfl rfl ?_
  refine s_iloadN (pc' := 15) X187.here hx (hb hby own_d2_14) rfl rfl ?_
  refine s_iloadN (pc' := 16) X187.here hx (hb hby own_d2_15) rfl rfl ?_
  refine s_bipush (pc' := 18) X187.here hx (v := (8 : Int32)) (hb hby own_d2_16) rfl rfl ?_
  refine s_idiv (pc' := 19) X187.here hx (hb hby own_d2_18) (by decide) rfl ?_
  refine s_iadd (pc' := 20) X187.here hx (hb hby own_d2_19) rfl ?_
  rw [show ((168 : Int32) / (8 : Int32)) = (21 : Int32) from by decide]
  refine s_baload (pc' := 21) (v := (.int (bb 21))) X187 hx hZ e187 f189 ⟨ix21.1, ix21.2.1⟩ (by rw [ix21.2.2]; exact hbj 21 (by decide)) (hb hby own_d2_20) rfl ?_
  refine s_iloadN (pc' := 22) X187.here hx (hb hby own_d2_21) rfl rfl ?_
  refine s_sipush (pc' := 25) X187.here hx (v := (248 : Int32)) (hb hby own_d2_22) rfl rfl ?_
  have hk194 : ¬ ((168 : Int32) = (248 : Int32)) := by decide
  refine s_icmpYes (pc' := 33) X187.here hx (hb hby own_d2_25) (feq hk194).2 (by decide) (by decide) ?_
  refine s_sipush (pc' := 36) X187.here hx (v := (255 : Int32)) (hb hby own_d2_33) rfl rfl ?_
  refine s_iand (pc' := 37) X187.here hx (hb hby own_d2_36) rfl ?_
  refine s_i2l (pc' := 38) X187.here hx (hb hby own_d2_37) rfl ?_
  obtain ⟨v21, hv21⟩ : ∃ z : Int64, z = (((bb 21) &&& (255 : Int32)).toInt64) := ⟨_, rfl⟩
  rw [← hv21]
  have bv21 : v21.toInt = (bb 21 &&& (255 : Int32)).toInt := by rw [hv21, c_i2l]
  have rv21 : 0 ≤ v21.toInt ∧ v21.toInt < 256 := hv21 ▸ own_rv (bb 21)
  refine s_lstore (pc' := 40) X187.here hx (l' := #[.val (.ref a), .val (.int o), .val (.ref rr), .val (.int (168 : Int32)), .val (.long v21), .second]) (hb hby own_d2_38) rfl rfl ?_
  refine s_aloadN (pc' := 41) X187.here hx (hb hby own_d2_40) rfl rfl rfl ?_
  refine s_iloadN (pc' := 42) X187.here hx (hb hby own_d2_41) rfl rfl ?_
  refine s_bipush (pc' := 44) X187.here hx (v := (51 : Int32)) (hb hby own_d2_42) rfl rfl ?_
  refine s_idiv (pc' := 45) X187.here hx (hb hby own_d2_44) (by decide) rfl ?_
  refine s_dup2 (pc' := 46) X187.here hx (hb hby own_d2_45) rfl rfl rfl ?_
  rw [show ((168 : Int32) / (51 : Int32)) = (3 : Int32) from by decide]
  refine s_laload (pc' := 47) (v := (.long l3_20)) X187 hx hZ e187 V188 ⟨by decide, by decide⟩ rfl (hb hby own_d2_46) rfl ?_
  refine s_lload (pc' := 49) X187.here hx (hb hby own_d2_47) rfl rfl ?_
  refine s_iloadN (pc' := 50) X187.here hx (hb hby own_d2_49) rfl rfl ?_
  refine s_bipush (pc' := 52) X187.here hx (v := (51 : Int32)) (hb hby own_d2_50) rfl rfl ?_
  refine s_irem (pc' := 53) X187 hx (hb hby own_d2_52) (by decide) rfl ?_
  refine s_lshl (pc' := 54) X187.here hx (hb hby own_d2_53) rfl ?_
  refine s_ldcJ (pc' := 57) X187 hx hZ hown (hw _ (List.mem_of_getElem? (i := 10) rfl)) (hb hby own_d2_54) rfl ?_
  refine s_land (pc' := 58) X187.here hx (hb hby own_d2_57) rfl ?_
  refine s_lor (pc' := 59) X187.here hx (hb hby own_d2_58) rfl ?_
  rw [show ((168 : Int32) % (51 : Int32)) = (15 : Int32) from by decide]
  refine s_putJ (pc' := 60) X187 hx hZ e187 V188 ⟨by decide, by decide⟩ 3 rfl (Nat.le_of_ble_eq_true rfl) (hb hby own_d2_59) rfl fun T195 hp195 X195 e195 W195 Vw195 => ?_
  have V196 : Arv Z hp195 rr ka1 .long (5 : Int32) [(.long l0_6), (.long l1_12), (.long l2_19), (.long (l3_20 ||| ((v21 <<< ((15 : Int32) &&& 0x3f).toInt64) &&& (2251799813685247 : Int64)))), (.long (0 : Int64))] (.long (0 : Int64)) := Vw195
  have N195 := Fr.snoc X195 N187 g_rr
  have f197 := f189.other W195 ne2
  have Z198 : n0 ≤ hp195.size := Nat.le_trans Z190 (Keep.of_wr W195).1
  have K199 : Keep h0 hp195 [] := K191.wr W195 (Or.inr sz_rr)
  have el21 := own_limb15 l3_20 v21 el20.2 rv21
  obtain ⟨l3_21, hl3_21⟩ : ∃ y, y = (l3_20 ||| ((v21 <<< ((15 : Int32) &&& 0x3f).toInt64) &&& (2251799813685247 : Int64))) := ⟨_, rfl⟩
  rw [← hl3_21] at V196 el21
  refine s_iloadN (pc' := 61) X195.here hx (hb hby own_d2_60) rfl rfl ?_
  refine s_bipush (pc' := 63) X195.here hx (v := (51 : Int32)) (hb hby own_d2_61) rfl rfl ?_
  refine s_irem (pc' := 64) X195 hx (hb hby own_d2_63) (by decide) rfl ?_
  refine s_bipush (pc' := 66) X195.here hx (v := (43 : Int32)) (hb hby own_d2_64) rfl rfl ?_
  rw [show ((168 : Int32) % (51 : Int32)) = (15 : Int32) from by decide]
  have hk200 : ¬ ((43 : Int32) < (15 : Int32)) := by decide
  refine s_icmpYes (pc' := 100) X195.here hx (hb hby own_d2_66) (flt hk200).2.2.2 (by decide) (by decide) ?_
  refine s_iinc (pc' := 103) X195.here hx (v := (8 : Int32)) (l' := #[.val (.ref a), .val (.int o), .val (.ref rr), .val (.int ((168 : Int32) + (8 : Int32))), .val (.long v21), .second]) (hb hby own_d2_100) rfl rfl rfl rfl ?_
  refine s_goto (pc' := 6) X195.here hx (hb hby own_d2_103) (by decide) (by decide) ?_
  rw [show ((168 : Int32) + (8 : Int32)) = (176 : Int32) from by decide]
  refine s_iloadN (pc' := 7) X195.here hx (hb hby own_d2_6) rfl rfl ?_
  refine s_sipush (pc' := 10) X195.here hx (v := (255 : Int32)) (hb hby own_d2_7) rfl rfl ?_
  have hk201 : (176 : Int32) < (255 : Int32) := by decide
  refine s_icmpNo (pc' := 13) X195.here hx (hb hby own_d2_10) (tlt hk201).2.1 rfl ?_
  refine s_aloadN (pc' := 14) X195.here hx (hb hby own_d2_13) rfl rfl rfl ?_
  refine s_iloadN (pc' := 15) X195.here hx (hb hby own_d2_14) rfl rfl ?_
  refine s_iloadN (pc' := 16) X195.here hx (hb hby own_d2_15) rfl rfl ?_
  refine s_bipush (pc' := 18) X195.here hx (v := (8 : Int32)) (hb hby own_d2_16) rfl rfl ?_
  refine s_idiv (pc' := 19) X195.here hx (hb hby own_d2_18) (by decide) rfl ?_
  refine s_iadd (pc' := 20) X195.here hx (hb hby own_d2_19) rfl ?_
  rw [show ((176 : Int32) / (8 : Int32)) = (22 : Int32) from by decide]
  refine s_baload (pc' := 21) (v := (.int (bb 22))) X195 hx hZ e195 f197 ⟨ix22.1, ix22.2.1⟩ (by rw [ix22.2.2]; exact hbj 22 (by decide)) (hb hby own_d2_20) rfl ?_
  refine s_iloadN (pc' := 22) X195.here hx (hb hby own_d2_21) rfl rfl ?_
  refine s_sipush (pc' := 25) X195.here hx (v := (248 : Int32)) (hb hby own_d2_22) rfl rfl ?_
  have hk202 : ¬ ((176 : Int32) = (248 : Int32)) := by decide
  refine s_icmpYes (pc' := 33) X195.here hx (hb hby own_d2_25) (feq hk202).2 (by decide) (by decide) ?_
  refine s_sipush (pc' := 36) X195.here hx (v := (255 : Int32)) (hb hby own_d2_33) rfl rfl ?_
  refine s_iand (pc' := 37) X195.here hx (hb hby own_d2_36) rfl ?_
  refine s_i2l (pc' := 38) X195.here hx (hb hby own_d2_37) rfl ?_
  obtain ⟨v22, hv22⟩ : ∃ z : Int64, z = (((bb 22) &&& (255 : Int32)).toInt64) := ⟨_, rfl⟩
  rw [← hv22]
  have bv22 : v22.toInt = (bb 22 &&& (255 : Int32)).toInt := by rw [hv22, c_i2l]
  have rv22 : 0 ≤ v22.toInt ∧ v22.toInt < 256 := hv22 ▸ own_rv (bb 22)
  refine s_lstore (pc' := 40) X195.here hx (l' := #[.val (.ref a), .val (.int o), .val (.ref rr), .val (.int (176 : Int32)), .val (.long v22), .second]) (hb hby own_d2_38) rfl rfl ?_
  refine s_aloadN (pc' := 41) X195.here hx (hb hby own_d2_40) rfl rfl rfl ?_
  refine s_iloadN (pc' := 42) X195.here hx (hb hby own_d2_41) rfl rfl ?_
  refine s_bipush (pc' := 44) X195.here hx (v := (51 : Int32)) (hb hby own_d2_42) rfl rfl ?_
  refine s_idiv (pc' := 45) X195.here hx (hb hby own_d2_44) (by decide) rfl ?_
  refine s_dup2 (pc' := 46) X195.here hx (hb hby own_d2_45) rfl rfl rfl ?_
  rw [show ((176 : Int32) / (51 : Int32)) = (3 : Int32) from by decide]
  refine s_laload (pc' := 47) (v := (.long l3_21)) X195 hx hZ e195 V196 ⟨by decide, by decide⟩ rfl (hb hby own_d2_46) rfl ?_
  refine s_lload (pc' := 49) X195.here hx (hb hby own_d2_47) rfl rfl ?_
  refine s_iloadN (pc' := 50) X195.here hx (hb hby own_d2_49) rfl rfl ?_
  refine s_bipush (pc' := 52) X195.here hx (v := (51 : Int32)) (hb hby own_d2_50) rfl rfl ?_
  refine s_irem (pc' := 53) X195 hx (hb hby own_d2_52) (by decide) rfl ?_
  refine s_lshl (pc' := 54) X195.here hx (hb hby own_d2_53) rfl ?_
  refine s_ldcJ (pc' := 57) X195 hx hZ hown (hw _ (List.mem_of_getElem? (i := 10) rfl)) (hb hby own_d2_54) rfl ?_
  refine s_land (pc' := 58) X195.here hx (hb hby own_d2_57) rfl ?_
  refine s_lor (pc' := 59) X195.here hx (hb hby own_d2_58) rfl ?_
  rw [show ((176 : Int32) % (51 : Int32)) = (23 : Int32) from by decide]
  refine s_putJ (pc' := 60) X195 hx hZ e195 V196 ⟨by decide, by decide⟩ 3 rfl (Nat.le_of_ble_eq_true rfl) (hb hby own_d2_59) rfl fun T203 hp203 X203 e203 W203 Vw203 => ?_
  have V204 : Arv Z hp203 rr ka1 .long (5 : Int32) [(.long l0_6), (.long l1_12), (.long l2_19), (.long (l3_21 ||| ((v22 <<< ((23 : Int32) &&& 0x3f).toInt64) &&& (2251799813685247 : Int64)))), (.long (0 : Int64))] (.long (0 : Int64)) := Vw203
  have N203 := Fr.snoc X203 N195 g_rr
  have f205 := f197.other W203 ne2
  have Z206 : n0 ≤ hp203.size := Nat.le_trans Z198 (Keep.of_wr W203).1
  have K207 : Keep h0 hp203 [] := K199.wr W203 (Or.inr sz_rr)
  have el22 := own_limb23 l3_21 v22 el21.2 rv22
  obtain ⟨l3_22, hl3_22⟩ : ∃ y, y = (l3_21 ||| ((v22 <<< ((23 : Int32) &&& 0x3f).toInt64) &&& (2251799813685247 : Int64))) := ⟨_, rfl⟩
  rw [← hl3_22] at V204 el22
  refine s_iloadN (pc' := 61) X203.here hx (hb hby own_d2_60) rfl rfl ?_
  refine s_bipush (pc' := 63) X203.here hx (v := (51 : Int32)) (hb hby own_d2_61) rfl rfl ?_
  refine s_irem (pc' := 64) X203 hx (hb hby own_d2_63) (by decide) rfl ?_
  refine s_bipush (pc' := 66) X203.here hx (v := (43 : Int32)) (hb hby own_d2_64) rfl rfl ?_
  rw [show ((176 : Int32) % (51 : Int32)) = (23 : Int32) from by decide]
  have hk208 : ¬ ((43 : Int32) < (23 : Int32)) := by decide
  refine s_icmpYes (pc' := 100) X203.here hx (hb hby own_d2_66) (flt hk208).2.2.2 (by decide) (by decide) ?_
  refine s_iinc (pc' := 103) X203.here hx (v := (8 : Int32)) (l' := #[.val (.ref a), .val (.int o), .val (.ref rr), .val (.int ((176 : Int32) + (8 : Int32))), .val (.long v22), .second]) (hb hby own_d2_100) rfl rfl rfl rfl ?_
  refine s_goto (pc' := 6) X203.here hx (hb hby own_d2_103) (by decide) (by decide) ?_
  rw [show ((176 : Int32) + (8 : Int32)) = (184 : Int32) from by decide]
  refine s_iloadN (pc' := 7) X203.here hx (hb hby own_d2_6) rfl rfl ?_
  refine s_sipush (pc' := 10) X203.here hx (v := (255 : Int32)) (hb hby own_d2_7) rfl rfl ?_
  have hk209 : (184 : Int32) < (255 : Int32) := by decide
  refine s_icmpNo (pc' := 13) X203.here hx (hb hby own_d2_10) (tlt hk209).2.1 rfl ?_
  refine s_aloadN (pc' := 14) X203.here hx (hb hby own_d2_13) rfl rfl rfl ?_
  refine s_iloadN (pc' := 15) X203.here hx (hb hby own_d2_14) rfl rfl ?_
  refine s_iloadN (pc' := 16) X203.here hx (hb hby own_d2_15) rfl rfl ?_
  refine s_bipush (pc' := 18) X203.here hx (v := (8 : Int32)) (hb hby own_d2_16) rfl rfl ?_
  refine s_idiv (pc' := 19) X203.here hx (hb hby own_d2_18) (by decide) rfl ?_
  refine s_iadd (pc' := 20) X203.here hx (hb hby own_d2_19) rfl ?_
  rw [show ((184 : Int32) / (8 : Int32)) = (23 : Int32) from by decide]
  refine s_baload (pc' := 21) (v := (.int (bb 23))) X203 hx hZ e203 f205 ⟨ix23.1, ix23.2.1⟩ (by rw [ix23.2.2]; exact hbj 23 (by decide)) (hb hby own_d2_20) rfl ?_
  refine s_iloadN (pc' := 22) X203.here hx (hb hby own_d2_21) rfl rfl ?_
  refine s_sipush (pc' := 25) X203.here hx (v := (248 : Int32)) (hb hby own_d2_22) rfl rfl ?_
  have hk210 : ¬ ((184 : Int32) = (248 : Int32)) := by decide
  refine s_icmpYes (pc' := 33) X203.here hx (hb hby own_d2_25) (feq hk210).2 (by decide) (by decide) ?_
  refine s_sipush (pc' := 36) X203.here hx (v := (255 : Int32)) (hb hby own_d2_33) rfl rfl ?_
  refine s_iand (pc' := 37) X203.here hx (hb hby own_d2_36) rfl ?_
  refine s_i2l (pc' := 38) X203.here hx (hb hby own_d2_37) rfl ?_
  obtain ⟨v23, hv23⟩ : ∃ z : Int64, z = (((bb 23) &&& (255 : Int32)).toInt64) := ⟨_, rfl⟩
  rw [← hv23]
  have bv23 : v23.toInt = (bb 23 &&& (255 : Int32)).toInt := by rw [hv23, c_i2l]
  have rv23 : 0 ≤ v23.toInt ∧ v23.toInt < 256 := hv23 ▸ own_rv (bb 23)
  refine s_lstore (pc' := 40) X203.here hx (l' := #[.val (.ref a), .val (.int o), .val (.ref rr), .val (.int (184 : Int32)), .val (.long v23), .second]) (hb hby own_d2_38) rfl rfl ?_
  refine s_aloadN (pc' := 41) X203.here hx (hb hby own_d2_40) rfl rfl rfl ?_
  refine s_iloadN (pc' := 42) X203.here hx (hb hby own_d2_41) rfl rfl ?_
  refine s_bipush (pc' := 44) X203.here hx (v := (51 : Int32)) (hb hby own_d2_42) rfl rfl ?_
  refine s_idiv (pc' := 45) X203.here hx (hb hby own_d2_44) (by decide) rfl ?_
  refine s_dup2 (pc' := 46) X203.here hx (hb hby own_d2_45) rfl rfl rfl ?_
  rw [show ((184 : Int32) / (51 : Int32)) = (3 : Int32) from by decide]
  refine s_laload (pc' := 47) (v := (.long l3_22)) X203 hx hZ e203 V204 ⟨by decide, by decide⟩ rfl (hb hby own_d2_46) rfl ?_
  refine s_lload (pc' := 49) X203.here hx (hb hby own_d2_47) rfl rfl ?_
  refine s_iloadN (pc' := 50) X203.here hx (hb hby own_d2_49) rfl rfl ?_
  refine s_bipush (pc' := 52) X203.here hx (v := (51 : Int32)) (hb hby own_d2_50) rfl rfl ?_
  refine s_irem (pc' := 53) X203 hx (hb hby own_d2_52) (by decide) rfl ?_
  refine s_lshl (pc' := 54) X203.here hx (hb hby own_d2_53) rfl ?_
  refine s_ldcJ (pc' := 57) X203 hx hZ hown (hw _ (List.mem_of_getElem? (i := 10) rfl)) (hb hby own_d2_54) rfl ?_
  refine s_land (pc' := 58) X203.here hx (hb hby own_d2_57) rfl ?_
  refine s_lor (pc' := 59) X203.here hx (hb hby own_d2_58) rfl ?_
  rw [show ((184 : Int32) % (51 : Int32)) = (31 : Int32) from by decide]
  refine s_putJ (pc' := 60) X203 hx hZ e203 V204 ⟨by decide, by decide⟩ 3 rfl (Nat.le_of_ble_eq_true rfl) (hb hby own_d2_59) rfl fun T211 hp211 X211 e211 W211 Vw211 => ?_
  have V212 : Arv Z hp211 rr ka1 .long (5 : Int32) [(.long l0_6), (.long l1_12), (.long l2_19), (.long (l3_22 ||| ((v23 <<< ((31 : Int32) &&& 0x3f).toInt64) &&& (2251799813685247 : Int64)))), (.long (0 : Int64))] (.long (0 : Int64)) := Vw211
  have N211 := Fr.snoc X211 N203 g_rr
  have f213 := f205.other W211 ne2
  have Z214 : n0 ≤ hp211.size := Nat.le_trans Z206 (Keep.of_wr W211).1
  have K215 : Keep h0 hp211 [] := K207.wr W211 (Or.inr sz_rr)
  have el23 := own_limb31 l3_22 v23 el22.2 rv23
  obtain ⟨l3_23, hl3_23⟩ : ∃ y, y = (l3_22 ||| ((v23 <<< ((31 : Int32) &&& 0x3f).toInt64) &&& (2251799813685247 : Int64))) := ⟨_, rfl⟩
  rw [← hl3_23] at V212 el23
  refine s_iloadN (pc' := 61) X211.here hx (hb hby own_d2_60) rfl rfl ?_
  refine s_bipush (pc' := 63) X211.here hx (v := (51 : Int32)) (hb hby own_d2_61) rfl rfl ?_
  refine s_irem (pc' := 64) X211 hx (hb hby own_d2_63) (by decide) rfl ?_
  refine s_bipush (pc' := 66) X211.here hx (v := (43 : Int32)) (hb hby own_d2_64) rfl rfl ?_
  rw [show ((184 : Int32) % (51 : Int32)) = (31 : Int32) from by decide]
  have hk216 : ¬ ((43 : Int32) < (31 : Int32)) := by decide
  refine s_icmpYes (pc' := 100) X211.here hx (hb hby own_d2_66) (flt hk216).2.2.2 (by decide) (by decide) ?_
  refine s_iinc (pc' := 103) X211.here hx (v := (8 : Int32)) (l' := #[.val (.ref a), .val (.int o), .val (.ref rr), .val (.int ((184 : Int32) + (8 : Int32))), .val (.long v23), .second]) (hb hby own_d2_100) rfl rfl rfl rfl ?_
  refine s_goto (pc' := 6) X211.here hx (hb hby own_d2_103) (by decide) (by decide) ?_
  rw [show ((184 : Int32) + (8 : Int32)) = (192 : Int32) from by decide]
  refine s_iloadN (pc' := 7) X211.here hx (hb hby own_d2_6) rfl rfl ?_
  refine s_sipush (pc' := 10) X211.here hx (v := (255 : Int32)) (hb hby own_d2_7) rfl rfl ?_
  have hk217 : (192 : Int32) < (255 : Int32) := by decide
  refine s_icmpNo (pc' := 13) X211.here hx (hb hby own_d2_10) (tlt hk217).2.1 rfl ?_
  refine s_aloadN (pc' := 14) X211.here hx (hb hby own_d2_13) rfl rfl rfl ?_
  refine s_iloadN (pc' := 15) X211.here hx (hb hby own_d2_14) rfl rfl ?_
  refine s_iloadN (pc' := 16) X211.here hx (hb hby own_d2_15) rfl rfl ?_
  refine s_bipush (pc' := 18) X211.here hx (v := (8 : Int32)) (hb hby own_d2_16) rfl rfl ?_
  refine s_idiv (pc' := 19) X211.here hx (hb hby own_d2_18) (by decide) rfl ?_
  refine s_iadd (pc' := 20) X211.here hx (hb hby own_d2_19) rfl ?_
  rw [show ((192 : Int32) / (8 : Int32)) = (24 : Int32) from by decide]
  refine s_baload (pc' := 21) (v := (.int (bb 24))) X211 hx hZ e211 f213 ⟨ix24.1, ix24.2.1⟩ (by rw [ix24.2.2]; exact hbj 24 (by decide)) (hb hby own_d2_20) rfl ?_
  refine s_iloadN (pc' := 22) X211.here hx (hb hby own_d2_21) rfl rfl ?_
  refine s_sipush (pc' := 25) X211.here hx (v := (248 : Int32)) (hb hby own_d2_22) rfl rfl ?_
  have hk218 : ¬ ((192 : Int32) = (248 : Int32)) := by decide
  refine s_icmpYes (pc' := 33) X211.here hx (hb hby own_d2_25) (feq hk218).2 (by decide) (by decide) ?_
  refine s_sipush (pc' := 36) X211.here hx (v := (255 : Int32)) (hb hby own_d2_33) rfl rfl ?_
  refine s_iand (pc' := 37) X211.here hx (hb hby own_d2_36) rfl ?_
  refine s_i2l (pc' := 38) X211.here hx (hb hby own_d2_37) rfl ?_
  obtain ⟨v24, hv24⟩ : ∃ z : Int64, z = (((bb 24) &&& (255 : Int32)).toInt64) := ⟨_, rfl⟩
  rw [← hv24]
  have bv24 : v24.toInt = (bb 24 &&& (255 : Int32)).toInt := by rw [hv24, c_i2l]
  have rv24 : 0 ≤ v24.toInt ∧ v24.toInt < 256 := hv24 ▸ own_rv (bb 24)
  refine s_lstore (pc' := 40) X211.here hx (l' := #[.val (.ref a), .val (.int o), .val (.ref rr), .val (.int (192 : Int32)), .val (.long v24), .second]) (hb hby own_d2_38) rfl rfl ?_
  refine s_aloadN (pc' := 41) X211.here hx (hb hby own_d2_40) rfl rfl rfl ?_
  refine s_iloadN (pc' := 42) X211.here hx (hb hby own_d2_41) rfl rfl ?_
  refine s_bipush (pc' := 44) X211.here hx (v := (51 : Int32)) (hb hby own_d2_42) rfl rfl ?_
  refine s_idiv (pc' := 45) X211.here hx (hb hby own_d2_44) (by decide) rfl ?_
  refine s_dup2 (pc' := 46) X211.here hx (hb hby own_d2_45) rfl rfl rfl ?_
  rw [show ((192 : Int32) / (51 : Int32)) = (3 : Int32) from by decide]
  refine s_laload (pc' := 47) (v := (.long l3_23)) X211 hx hZ e211 V212 ⟨by decide, by decide⟩ rfl (hb hby own_d2_46) rfl ?_
  refine s_lload (pc' := 49) X211.here hx (hb hby own_d2_47) rfl rfl ?_
  refine s_iloadN (pc' := 50) X211.here hx (hb hby own_d2_49) rfl rfl ?_
  refine s_bipush (pc' := 52) X211.here hx (v := (51 : Int32)) (hb hby own_d2_50) rfl rfl ?_
  refine s_irem (pc' := 53) X211 hx (hb hby own_d2_52) (by decide) rfl ?_
  refine s_lshl (pc' := 54) X211.here hx (hb hby own_d2_53) rfl ?_
  refine s_ldcJ (pc' := 57) X211 hx hZ hown (hw _ (List.mem_of_getElem? (i := 10) rfl)) (hb hby own_d2_54) rfl ?_
  refine s_land (pc' := 58) X211.here hx (hb hby own_d2_57) rfl ?_
  refine s_lor (pc' := 59) X211.here hx (hb hby own_d2_58) rfl ?_
  rw [show ((192 : Int32) % (51 : Int32)) = (39 : Int32) from by decide]
  refine s_putJ (pc' := 60) X211 hx hZ e211 V212 ⟨by decide, by decide⟩ 3 rfl (Nat.le_of_ble_eq_true rfl) (hb hby own_d2_59) rfl fun T219 hp219 X219 e219 W219 Vw219 => ?_
  have V220 : Arv Z hp219 rr ka1 .long (5 : Int32) [(.long l0_6), (.long l1_12), (.long l2_19), (.long (l3_23 ||| ((v24 <<< ((39 : Int32) &&& 0x3f).toInt64) &&& (2251799813685247 : Int64)))), (.long (0 : Int64))] (.long (0 : Int64)) := Vw219
  have N219 := Fr.snoc X219 N211 g_rr
  have f221 := f213.other W219 ne2
  have Z222 : n0 ≤ hp219.size := Nat.le_trans Z214 (Keep.of_wr W219).1
  have K223 : Keep h0 hp219 [] := K215.wr W219 (Or.inr sz_rr)
  have el24 := own_limb39 l3_23 v24 el23.2 rv24
  obtain ⟨l3_24, hl3_24⟩ : ∃ y, y = (l3_23 ||| ((v24 <<< ((39 : Int32) &&& 0x3f).toInt64) &&& (2251799813685247 : Int64))) := ⟨_, rfl⟩
  rw [← hl3_24] at V220 el24
  refine s_iloadN (pc' := 61) X219.here hx (hb hby own_d2_60) rfl rfl ?_
  refine s_bipush (pc' := 63) X219.here hx (v := (51 : Int32)) (hb hby own_d2_61) rfl rfl ?_
  refine s_irem (pc' := 64) X219 hx (hb hby own_d2_63) (by decide) rfl ?_
  refine s_bipush (pc' := 66) X219.here hx (v := (43 : Int32)) (hb hby own_d2_64) rfl rfl ?_
  rw [show ((192 : Int32) % (51 : Int32)) = (39 : Int32) from by decide]
  have hk224 : ¬ ((43 : Int32) < (39 : Int32)) := by decide
  refine s_icmpYes (pc' := 100) X219.here hx (hb hby own_d2_66) (flt hk224).2.2.2 (by decide) (by decide) ?_
  refine s_iinc (pc' := 103) X219.here hx (v := (8 : Int32)) (l' := #[.val (.ref a), .val (.int o), .val (.ref rr), .val (.int ((192 : Int32) + (8 : Int32))), .val (.long v24), .second]) (hb hby own_d2_100) rfl rfl rfl rfl ?_
  refine s_goto (pc' := 6) X219.here hx (hb hby own_d2_103) (by decide) (by decide) ?_
  rw [show ((192 : Int32) + (8 : Int32)) = (200 : Int32) from by decide]
  refine s_iloadN (pc' := 7) X219.here hx (hb hby own_d2_6) rfl rfl ?_
  refine s_sipush (pc' := 10) X219.here hx (v := (255 : Int32)) (hb hby own_d2_7) rfl rfl ?_
  have hk225 : (200 : Int32) < (255 : Int32) := by decide
  refine s_icmpNo (pc' := 13) X219.here hx (hb hby own_d2_10) (tlt hk225).2.1 rfl ?_
  refine s_aloadN (pc' := 14) X219.here hx (hb hby own_d2_13) rfl rfl rfl ?_
  refine s_iloadN (pc' := 15) X219.here hx (hb hby own_d2_14) rfl rfl ?_
  refine s_iloadN (pc' := 16) X219.here hx (hb hby own_d2_15) rfl rfl ?_
  refine s_bipush (pc' := 18) X219.here hx (v := (8 : Int32)) (hb hby own_d2_16) rfl rfl ?_
  refine s_idiv (pc' := 19) X219.here hx (hb hby own_d2_18) (by decide) rfl ?_
  refine s_iadd (pc' := 20) X219.here hx (hb hby own_d2_19) rfl ?_
  rw [show ((200 : Int32) / (8 : Int32)) = (25 : Int32) from by decide]
  refine s_baload (pc' := 21) (v := (.int (bb 25))) X219 hx hZ e219 f221 ⟨ix25.1, ix25.2.1⟩ (by rw [ix25.2.2]; exact hbj 25 (by decide)) (hb hby own_d2_20) rfl ?_
  refine s_iloadN (pc' := 22) X219.here hx (hb hby own_d2_21) rfl rfl ?_
  refine s_sipush (pc' := 25) X219.here hx (v := (248 : Int32)) (hb hby own_d2_22) rfl rfl ?_
  have hk226 : ¬ ((200 : Int32) = (248 : Int32)) := by decide
  refine s_icmpYes (pc' := 33) X219.here hx (hb hby own_d2_25) (feq hk226).2 (by decide) (by decide) ?_
  refine s_sipush (pc' := 36) X219.here hx (v := (255 : Int32)) (hb hby own_d2_33) rfl rfl ?_
  refine s_iand (pc' := 37) X219.here hx (hb hby own_d2_36) rfl ?_
  refine s_i2l (pc' := 38) X219.here hx (hb hby own_d2_37) rfl ?_
  obtain ⟨v25, hv25⟩ : ∃ z : Int64, z = (((bb 25) &&& (255 : Int32)).toInt64) := ⟨_, rfl⟩
  rw [← hv25]
  have bv25 : v25.toInt = (bb 25 &&& (255 : Int32)).toInt := by rw [hv25, c_i2l]
  have rv25 : 0 ≤ v25.toInt ∧ v25.toInt < 256 := hv25 ▸ own_rv (bb 25)
  refine s_lstore (pc' := 40) X219.here hx (l' := #[.val (.ref a), .val (.int o), .val (.ref rr), .val (.int (200 : Int32)), .val (.long v25), .second]) (hb hby own_d2_38) rfl rfl ?_
  refine s_aloadN (pc' := 41) X219.here hx (hb hby own_d2_40) rfl rfl rfl ?_
  refine s_iloadN (pc' := 42) X219.here hx (hb hby own_d2_41) rfl rfl ?_
  refine s_bipush (pc' := 44) X219.here hx (v := (51 : Int32)) (hb hby own_d2_42) rfl rfl ?_
  refine s_idiv (pc' := 45) X219.here hx (hb hby own_d2_44) (by decide) rfl ?_
  refine s_dup2 (pc' := 46) X219.here hx (hb hby own_d2_45) rfl rfl rfl ?_
  rw [show ((200 : Int32) / (51 : Int32)) = (3 : Int32) from by decide]
  refine s_laload (pc' := 47) (v := (.long l3_24)) X219 hx hZ e219 V220 ⟨by decide, by decide⟩ rfl (hb hby own_d2_46) rfl ?_
  refine s_lload (pc' := 49) X219.here hx (hb hby own_d2_47) rfl rfl ?_
  refine s_iloadN (pc' := 50) X219.here hx (hb hby own_d2_49) rfl rfl ?_
  refine s_bipush (pc' := 52) X219.here hx (v := (51 : Int32)) (hb hby own_d2_50) rfl rfl ?_
  refine s_irem (pc' := 53) X219 hx (hb hby own_d2_52) (by decide) rfl ?_
  refine s_lshl (pc' := 54) X219.here hx (hb hby own_d2_53) rfl ?_
  refine s_ldcJ (pc' := 57) X219 hx hZ hown (hw _ (List.mem_of_getElem? (i := 10) rfl)) (hb hby own_d2_54) rfl ?_
  refine s_land (pc' := 58) X219.here hx (hb hby own_d2_57) rfl ?_
  refine s_lor (pc' := 59) X219.here hx (hb hby own_d2_58) rfl ?_
  rw [show ((200 : Int32) % (51 : Int32)) = (47 : Int32) from by decide]
  refine s_putJ (pc' := 60) X219 hx hZ e219 V220 ⟨by decide, by decide⟩ 3 rfl (Nat.le_of_ble_eq_true rfl) (hb hby own_d2_59) rfl fun T227 hp227 X227 e227 W227 Vw227 => ?_
  have V228 : Arv Z hp227 rr ka1 .long (5 : Int32) [(.long l0_6), (.long l1_12), (.long l2_19), (.long (l3_24 ||| ((v25 <<< ((47 : Int32) &&& 0x3f).toInt64) &&& (2251799813685247 : Int64)))), (.long (0 : Int64))] (.long (0 : Int64)) := Vw227
  have N227 := Fr.snoc X227 N219 g_rr
  have f229 := f221.other W227 ne2
  have Z230 : n0 ≤ hp227.size := Nat.le_trans Z222 (Keep.of_wr W227).1
  have K231 : Keep h0 hp227 [] := K223.wr W227 (Or.inr sz_rr)
  have el25 := own_limb47 l3_24 v25 el24.2 rv25
  obtain ⟨l3_25, hl3_25⟩ : ∃ y, y = (l3_24 ||| ((v25 <<< ((47 : Int32) &&& 0x3f).toInt64) &&& (2251799813685247 : Int64))) := ⟨_, rfl⟩
  rw [← hl3_25] at V228 el25
  refine s_iloadN (pc' := 61) X227.here hx (hb hby own_d2_60) rfl rfl ?_
  refine s_bipush (pc' := 63) X227.here hx (v := (51 : Int32)) (hb hby own_d2_61) rfl rfl ?_
  refine s_irem (pc' := 64) X227 hx (hb hby own_d2_63) (by decide) rfl ?_
  refine s_bipush (pc' := 66) X227.here hx (v := (43 : Int32)) (hb hby own_d2_64) rfl rfl ?_
  rw [show ((200 : Int32) % (51 : Int32)) = (47 : Int32) from by decide]
  have hk232 : (43 : Int32) < (47 : Int32) := by decide
  refine s_icmpNo (pc' := 69) X227.here hx (hb hby own_d2_66) (tlt hk232).2.2.2 rfl ?_
  refine s_iloadN (pc' := 70) X227.here hx (hb hby own_d2_69) rfl rfl ?_
  refine s_bipush (pc' := 72) X227.here hx (v := (51 : Int32)) (hb hby own_d2_70) rfl rfl ?_
  refine s_idiv (pc' := 73) X227.here hx (hb hby own_d2_72) (by decide) rfl ?_
  refine s_iconst (pc' := 74) X227.here hx (v := (1 : Int32)) (hb hby own_d2_73) rfl rfl ?_
  refine s_iadd (pc' := 75) X227.here hx (hb hby own_d2_74) rfl ?_
  refine s_iconst (pc' := 76) X227.here hx (v := (5 : Int32)) (hb hby own_d2_75) rfl rfl ?_
  rw [show (((200 : Int32) / (51 : Int32)) + (1 : Int32)) = (4 : Int32) from by decide]
  have hk233 : (4 : Int32) < (5 : Int32) := by decide
  refine s_icmpNo (pc' := 79) X227.here hx (hb hby own_d2_76) (tlt hk233).2.1 rfl ?_
  refine s_aloadN (pc' := 80) X227.here hx (hb hby own_d2_79) rfl rfl rfl ?_
  refine s_iloadN (pc' := 81) X227.here hx (hb hby own_d2_80) rfl rfl ?_
  refine s_bipush (pc' := 83) X227.here hx (v := (51 : Int32)) (hb hby own_d2_81) rfl rfl ?_
  refine s_idiv (pc' := 84) X227.here hx (hb hby own_d2_83) (by decide) rfl ?_
  refine s_iconst (pc' := 85) X227.here hx (v := (1 : Int32)) (hb hby own_d2_84) rfl rfl ?_
  refine s_iadd (pc' := 86) X227.here hx (hb hby own_d2_85) rfl ?_
  refine s_dup2 (pc' := 87) X227.here hx (hb hby own_d2_86) rfl rfl rfl ?_
  rw [show (((200 : Int32) / (51 : Int32)) + (1 : Int32)) = (4 : Int32) from by decide]
  refine s_laload (pc' := 88) (v := (.long (0 : Int64))) X227 hx hZ e227 V228 ⟨by decide, by decide⟩ rfl (hb hby own_d2_87) rfl ?_
  refine s_lload (pc' := 90) X227.here hx (hb hby own_d2_88) rfl rfl ?_
  refine s_bipush (pc' := 92) X227.here hx (v := (51 : Int32)) (hb hby own_d2_90) rfl rfl ?_
  refine s_iloadN (pc' := 93) X227.here hx (hb hby own_d2_92) rfl rfl ?_
  refine s_bipush (pc' := 95) X227.here hx (v := (51 : Int32)) (hb hby own_d2_93) rfl rfl ?_
  refine s_irem (pc' := 96) X227 hx (hb hby own_d2_95) (by decide) rfl ?_
  refine s_isub (pc' := 97) X227.here hx (hb hby own_d2_96) rfl ?_
  refine s_lushr (pc' := 98) X227.here hx (hb hby own_d2_97) rfl ?_
  refine s_lor (pc' := 99) X227.here hx (hb hby own_d2_98) rfl ?_
  rw [show ((51 : Int32) - ((200 : Int32) % (51 : Int32))) = (4 : Int32) from by decide]
  refine s_putJ (pc' := 100) X227 hx hZ e227 V228 ⟨by decide, by decide⟩ 4 rfl (Nat.le_of_ble_eq_true rfl) (hb hby own_d2_99) rfl fun T234 hp234 X234 e234 W234 Vw234 => ?_
  have V235 : Arv Z hp234 rr ka1 .long (5 : Int32) [(.long l0_6), (.long l1_12), (.long l2_19), (.long l3_25), (.long ((0 : Int64) ||| ((v25.toUInt64 >>> ((4 : Int32) &&& 0x3f).toInt64.toUInt64).toInt64)))] (.long (0 : Int64)) := Vw234
  have N234 := Fr.snoc X234 N227 g_rr
  have f236 := f229.other W234 ne2
  have Z237 : n0 ≤ hp234.size := Nat.le_trans Z230 (Keep.of_wr W234).1
  have K238 : Keep h0 hp234 [] := K231.wr W234 (Or.inr sz_rr)
  have eo25 := own_over4 v25 rv25
  obtain ⟨l4_25o, hl4_25o⟩ : ∃ y, y = ((0 : Int64) ||| ((v25.toUInt64 >>> ((4 : Int32) &&& 0x3f).toInt64.toUInt64).toInt64)) := ⟨_, rfl⟩
  rw [← hl4_25o] at V235 eo25
  refine s_iinc (pc' := 103) X234.here hx (v := (8 : Int32)) (l' := #[.val (.ref a), .val (.int o), .val (.ref rr), .val (.int ((200 : Int32) + (8 : Int32))), .val (.long v25), .second]) (hb hby own_d2_100) rfl rfl rfl rfl ?_
  refine s_goto (pc' := 6) X234.here hx (hb hby own_d2_103) (by decide) (by decide) ?_
  rw [show ((200 : Int32) + (8 : Int32)) = (208 : Int32) from by decide]
  refine s_iloadN (pc' := 7) X234.here hx (hb hby own_d2_6) rfl rfl ?_
  refine s_sipush (pc' := 10) X234.here hx (v := (255 : Int32)) (hb hby own_d2_7) rfl rfl ?_
  have hk239 : (208 : Int32) < (255 : Int32) := by decide
  refine s_icmpNo (pc' := 13) X234.here hx (hb hby own_d2_10) (tlt hk239).2.1 rfl ?_
  refine s_aloadN (pc' := 14) X234.here hx (hb hby own_d2_13) rfl rfl rfl ?_
  refine s_iloadN (pc' := 15) X234.here hx (hb hby own_d2_14) rfl rfl ?_
  refine s_iloadN (pc' := 16) X234.here hx (hb hby own_d2_15) rfl rfl ?_
  refine s_bipush (pc' := 18) X234.here hx (v := (8 : Int32)) (hb hby own_d2_16) rfl rfl ?_
  refine s_idiv (pc' := 19) X234.here hx (hb hby own_d2_18) (by decide) rfl ?_
  refine s_iadd (pc' := 20) X234.here hx (hb hby own_d2_19) rfl ?_
  rw [show ((208 : Int32) / (8 : Int32)) = (26 : Int32) from by decide]
  refine s_baload (pc' := 21) (v := (.int (bb 26))) X234 hx hZ e234 f236 ⟨ix26.1, ix26.2.1⟩ (by rw [ix26.2.2]; exact hbj 26 (by decide)) (hb hby own_d2_20) rfl ?_
  refine s_iloadN (pc' := 22) X234.here hx (hb hby own_d2_21) rfl rfl ?_
  refine s_sipush (pc' := 25) X234.here hx (v := (248 : Int32)) (hb hby own_d2_22) rfl rfl ?_
  have hk240 : ¬ ((208 : Int32) = (248 : Int32)) := by decide
  refine s_icmpYes (pc' := 33) X234.here hx (hb hby own_d2_25) (feq hk240).2 (by decide) (by decide) ?_
  refine s_sipush (pc' := 36) X234.here hx (v := (255 : Int32)) (hb hby own_d2_33) rfl rfl ?_
  refine s_iand (pc' := 37) X234.here hx (hb hby own_d2_36) rfl ?_
  refine s_i2l (pc' := 38) X234.here hx (hb hby own_d2_37) rfl ?_
  obtain ⟨v26, hv26⟩ : ∃ z : Int64, z = (((bb 26) &&& (255 : Int32)).toInt64) := ⟨_, rfl⟩
  rw [← hv26]
  have bv26 : v26.toInt = (bb 26 &&& (255 : Int32)).toInt := by rw [hv26, c_i2l]
  have rv26 : 0 ≤ v26.toInt ∧ v26.toInt < 256 := hv26 ▸ own_rv (bb 26)
  refine s_lstore (pc' := 40) X234.here hx (l' := #[.val (.ref a), .val (.int o), .val (.ref rr), .val (.int (208 : Int32)), .val (.long v26), .second]) (hb hby own_d2_38) rfl rfl ?_
  refine s_aloadN (pc' := 41) X234.here hx (hb hby own_d2_40) rfl rfl rfl ?_
  refine s_iloadN (pc' := 42) X234.here hx (hb hby own_d2_41) rfl rfl ?_
  refine s_bipush (pc' := 44) X234.here hx (v := (51 : Int32)) (hb hby own_d2_42) rfl rfl ?_
  refine s_idiv (pc' := 45) X234.here hx (hb hby own_d2_44) (by decide) rfl ?_
  refine s_dup2 (pc' := 46) X234.here hx (hb hby own_d2_45) rfl rfl rfl ?_
  rw [show ((208 : Int32) / (51 : Int32)) = (4 : Int32) from by decide]
  refine s_laload (pc' := 47) (v := (.long l4_25o)) X234 hx hZ e234 V235 ⟨by decide, by decide⟩ rfl (hb hby own_d2_46) rfl ?_
  refine s_lload (pc' := 49) X234.here hx (hb hby own_d2_47) rfl rfl ?_
  refine s_iloadN (pc' := 50) X234.here hx (hb hby own_d2_49) rfl rfl ?_
  refine s_bipush (pc' := 52) X234.here hx (v := (51 : Int32)) (hb hby own_d2_50) rfl rfl ?_
  refine s_irem (pc' := 53) X234 hx (hb hby own_d2_52) (by decide) rfl ?_
  refine s_lshl (pc' := 54) X234.here hx (hb hby own_d2_53) rfl ?_
  refine s_ldcJ (pc' := 57) X234 hx hZ hown (hw _ (List.mem_of_getElem? (i := 10) rfl)) (hb hby own_d2_54) rfl ?_
  refine s_land (pc' := 58) X234.here hx (hb hby own_d2_57) rfl ?_
  refine s_lor (pc' := 59) X234.here hx (hb hby own_d2_58) rfl ?_
  rw [show ((208 : Int32) % (51 : Int32)) = (4 : Int32) from by decide]
  refine s_putJ (pc' := 60) X234 hx hZ e234 V235 ⟨by decide, by decide⟩ 4 rfl (Nat.le_of_ble_eq_true rfl) (hb hby own_d2_59) rfl fun T241 hp241 X241 e241 W241 Vw241 => ?_
  have V242 : Arv Z hp241 rr ka1 .long (5 : Int32) [(.long l0_6), (.long l1_12), (.long l2_19), (.long l3_25), (.long (l4_25o ||| ((v26 <<< ((4 : Int32) &&& 0x3f).toInt64) &&& (2251799813685247 : Int64))))] (.long (0 : Int64)) := Vw241
  have N241 := Fr.snoc X241 N234 g_rr
  have f243 := f236.other W241 ne2
  have Z244 : n0 ≤ hp241.size := Nat.le_trans Z237 (Keep.of_wr W241).1
  have K245 : Keep h0 hp241 [] := K238.wr W241 (Or.inr sz_rr)
  have el26 := own_limb4 l4_25o v26 eo25.2 rv26
  obtain ⟨l4_26, hl4_26⟩ : ∃ y, y = (l4_25o ||| ((v26 <<< ((4 : Int32) &&& 0x3f).toInt64) &&& (2251799813685247 : Int64))) := ⟨_, rfl⟩
  rw [← hl4_26] at V242 el26
  refine s_iloadN (pc' := 61) X241.here hx (hb hby own_d2_60) rfl rfl ?_
  refine s_bipush (pc' := 63) X241.here hx (v := (51 : Int32)) (hb hby own_d2_61) rfl rfl ?_
  refine s_irem (pc' := 64) X241 hx (hb hby own_d2_63) (by decide) rfl ?_
  refine s_bipush (pc' := 66) X241.here hx (v := (43 : Int32)) (hb hby own_d2_64) rfl rfl ?_
  rw [show ((208 : Int32) % (51 : Int32)) = (4 : Int32) from by decide]
  have hk246 : ¬ ((43 : Int32) < (4 : Int32)) := by decide
  refine s_icmpYes (pc' := 100) X241.here hx (hb hby own_d2_66) (flt hk246).2.2.2 (by decide) (by decide) ?_
  refine s_iinc (pc' := 103) X241.here hx (v := (8 : Int32)) (l' := #[.val (.ref a), .val (.int o), .val (.ref rr), .val (.int ((208 : Int32) + (8 : Int32))), .val (.long v26), .second]) (hb hby own_d2_100) rfl rfl rfl rfl ?_
  refine s_goto (pc' := 6) X241.here hx (hb hby own_d2_103) (by decide) (by decide) ?_
  rw [show ((208 : Int32) + (8 : Int32)) = (216 : Int32) from by decide]
  refine s_iloadN (pc' := 7) X241.here hx (hb hby own_d2_6) rfl rfl ?_
  refine s_sipush (pc' := 10) X241.here hx (v := (255 : Int32)) (hb hby own_d2_7) rfl rfl ?_
  have hk247 : (216 : Int32) < (255 : Int32) := by decide
  refine s_icmpNo (pc' := 13) X241.here hx (hb hby own_d2_10) (tlt hk247).2.1 rfl ?_
  refine s_aloadN (pc' := 14) X241.here hx (hb hby own_d2_13) rfl rfl rfl ?_
  refine s_iloadN (pc' := 15) X241.here hx (hb hby own_d2_14) rfl rfl ?_
  refine s_iloadN (pc' := 16) X241.here hx (hb hby own_d2_15) rfl rfl ?_
  refine s_bipush (pc' := 18) X241.here hx (v := (8 : Int32)) (hb hby own_d2_16) rfl rfl ?_
  refine s_idiv (pc' := 19) X241.here hx (hb hby own_d2_18) (by decide) rfl ?_
  refine s_iadd (pc' := 20) X241.here hx (hb hby own_d2_19) rfl ?_
  rw [show ((216 : Int32) / (8 : Int32)) = (27 : Int32) from by decide]
  refine s_baload (pc' := 21) (v := (.int (bb 27))) X241 hx hZ e241 f243 ⟨ix27.1, ix27.2.1⟩ (by rw [ix27.2.2]; exact hbj 27 (by decide)) (hb hby own_d2_20) rfl ?_
  refine s_iloadN (pc' := 22) X241.here hx (hb hby own_d2_21) rfl rfl ?_
  refine s_sipush (pc' := 25) X241.here hx (v := (248 : Int32)) (hb hby own_d2_22) rfl rfl ?_
  have hk248 : ¬ ((216 : Int32) = (248 : Int32)) := by decide
  refine s_icmpYes (pc' := 33) X241.here hx (hb hby own_d2_25) (feq hk248).2 (by decide) (by decide) ?_
  refine s_sipush (pc' := 36) X241.here hx (v := (255 : Int32)) (hb hby own_d2_33) rfl rfl ?_
  refine s_iand (pc' := 37) X241.here hx (hb hby own_d2_36) rfl ?_
  refine s_i2l (pc' := 38) X241.here hx (hb hby own_d2_37) rfl ?_
  obtain ⟨v27, hv27⟩ : ∃ z : Int64, z = (((bb 27) &&& (255 : Int32)).toInt64) := ⟨_, rfl⟩
  rw [← hv27]
  have bv27 : v27.toInt = (bb 27 &&& (255 : Int32)).toInt := by rw [hv27, c_i2l]
  have rv27 : 0 ≤ v27.toInt ∧ v27.toInt < 256 := hv27 ▸ own_rv (bb 27)
  refine s_lstore (pc' := 40) X241.here hx (l' := #[.val (.ref a), .val (.int o), .val (.ref rr), .val (.int (216 : Int32)), .val (.long v27), .second]) (hb hby own_d2_38) rfl rfl ?_
  refine s_aloadN (pc' := 41) X241.here hx (hb hby own_d2_40) rfl rfl rfl ?_
  refine s_iloadN (pc' := 42) X241.here hx (hb hby own_d2_41) rfl rfl ?_
  refine s_bipush (pc' := 44) X241.here hx (v := (51 : Int32)) (hb hby own_d2_42) rfl rfl ?_
  refine s_idiv (pc' := 45) X241.here hx (hb hby own_d2_44) (by decide) rfl ?_
  refine s_dup2 (pc' := 46) X241.here hx (hb hby own_d2_45) rfl rfl rfl ?_
  rw [show ((216 : Int32) / (51 : Int32)) = (4 : Int32) from by decide]
  refine s_laload (pc' := 47) (v := (.long l4_26)) X241 hx hZ e241 V242 ⟨by decide, by decide⟩ rfl (hb hby own_d2_46) rfl ?_
  refine s_lload (pc' := 49) X241.here hx (hb hby own_d2_47) rfl rfl ?_
  refine s_iloadN (pc' := 50) X241.here hx (hb hby own_d2_49) rfl rfl ?_
  refine s_bipush (pc' := 52) X241.here hx (v := (51 : Int32)) (hb hby own_d2_50) rfl rfl ?_
  refine s_irem (pc' := 53) X241 hx (hb hby own_d2_52) (by decide) rfl ?_
  refine s_lshl (pc' := 54) X241.here hx (hb hby own_d2_53) rfl ?_
  refine s_ldcJ (pc' := 57) X241 hx hZ hown (hw _ (List.mem_of_getElem? (i := 10) rfl)) (hb hby own_d2_54) rfl ?_
  refine s_land (pc' := 58) X241.here hx (hb hby own_d2_57) rfl ?_
  refine s_lor (pc' := 59) X241.here hx (hb hby own_d2_58) rfl ?_
  rw [show ((216 : Int32) % (51 : Int32)) = (12 : Int32) from by decide]
  refine s_putJ (pc' := 60) X241 hx hZ e241 V242 ⟨by decide, by decide⟩ 4 rfl (Nat.le_of_ble_eq_true rfl) (hb hby own_d2_59) rfl fun T249 hp249 X249 e249 W249 Vw249 => ?_
  have V250 : Arv Z hp249 rr ka1 .long (5 : Int32) [(.long l0_6), (.long l1_12), (.long l2_19), (.long l3_25), (.long (l4_26 ||| ((v27 <<< ((12 : Int32) &&& 0x3f).toInt64) &&& (2251799813685247 : Int64))))] (.long (0 : Int64)) := Vw249
  have N249 := Fr.snoc X249 N241 g_rr
  have f251 := f243.other W249 ne2
  have Z252 : n0 ≤ hp249.size := Nat.le_trans Z244 (Keep.of_wr W249).1
  have K253 : Keep h0 hp249 [] := K245.wr W249 (Or.inr sz_rr)
  have el27 := own_limb12 l4_26 v27 el26.2 rv27
  obtain ⟨l4_27, hl4_27⟩ : ∃ y, y = (l4_26 ||| ((v27 <<< ((12 : Int32) &&& 0x3f).toInt64) &&& (2251799813685247 : Int64))) := ⟨_, rfl⟩
  rw [← hl4_27] at V250 el27
  refine s_iloadN (pc' := 61) X249.here hx (hb hby own_d2_60) rfl rfl ?_
  refine s_bipush (pc' := 63) X249.here hx (v := (51 : Int32)) (hb hby own_d2_61) rfl rfl ?_
  refine s_irem (pc' := 64) X249 hx (hb hby own_d2_63) (by decide) rfl ?_
  refine s_bipush (pc' := 66) X249.here hx (v := (43 : Int32)) (hb hby own_d2_64) rfl rfl ?_
  rw [show ((216 : Int32) % (51 : Int32)) = (12 : Int32) from by decide]
  have hk254 : ¬ ((43 : Int32) < (12 : Int32)) := by decide
  refine s_icmpYes (pc' := 100) X249.here hx (hb hby own_d2_66) (flt hk254).2.2.2 (by decide) (by decide) ?_
  refine s_iinc (pc' := 103) X249.here hx (v := (8 : Int32)) (l' := #[.val (.ref a), .val (.int o), .val (.ref rr), .val (.int ((216 : Int32) + (8 : Int32))), .val (.long v27), .second]) (hb hby own_d2_100) rfl rfl rfl rfl ?_
  refine s_goto (pc' := 6) X249.here hx (hb hby own_d2_103) (by decide) (by decide) ?_
  rw [show ((216 : Int32) + (8 : Int32)) = (224 : Int32) from by decide]
  refine s_iloadN (pc' := 7) X249.here hx (hb hby own_d2_6) rfl rfl ?_
  refine s_sipush (pc' := 10) X249.here hx (v := (255 : Int32)) (hb hby own_d2_7) rfl rfl ?_
  have hk255 : (224 : Int32) < (255 : Int32) := by decide
  refine s_icmpNo (pc' := 13) X249.here hx (hb hby own_d2_10) (tlt hk255).2.1 rfl ?_
  refine s_aloadN (pc' := 14) X249.here hx (hb hby own_d2_13) rfl rfl rfl ?_
  refine s_iloadN (pc' := 15) X249.here hx (hb hby own_d2_14) rfl rfl ?_
  refine s_iloadN (pc' := 16) X249.here hx (hb hby own_d2_15) rfl rfl ?_
  refine s_bipush (pc' := 18) X249.here hx (v := (8 : Int32)) (hb hby own_d2_16) rfl rfl ?_
  refine s_idiv (pc' := 19) X249.here hx (hb hby own_d2_18) (by decide) rfl ?_
  refine s_iadd (pc' := 20) X249.here hx (hb hby own_d2_19) rfl ?_
  rw [show ((224 : Int32) / (8 : Int32)) = (28 : Int32) from by decide]
  refine s_baload (pc' := 21) (v := (.int (bb 28))) X249 hx hZ e249 f251 ⟨ix28.1, ix28.2.1⟩ (by rw [ix28.2.2]; exact hbj 28 (by decide)) (hb hby own_d2_20) rfl ?_
  refine s_iloadN (pc' := 22) X249.here hx (hb hby own_d2_21) rfl rfl ?_
  refine s_sipush (pc' := 25) X249.here hx (v := (248 : Int32)) (hb hby own_d2_22) rfl rfl ?_
  have hk256 : ¬ ((224 : Int32) = (248 : Int32)) := by decide
  refine s_icmpYes (pc' := 33) X249.here hx (hb hby own_d2_25) (feq hk256).2 (by decide) (by decide) ?_
  refine s_sipush (pc' := 36) X249.here hx (v := (255 : Int32)) (hb hby own_d2_33) rfl rfl ?_
  refine s_iand (pc' := 37) X249.here hx (hb hby own_d2_36) rfl ?_
  refine s_i2l (pc' := 38) X249.here hx (hb hby own_d2_37) rfl ?_
  obtain ⟨v28, hv28⟩ : ∃ z : Int64, z = (((bb 28) &&& (255 : Int32)).toInt64) := ⟨_, rfl⟩
  rw [← hv28]
  have bv28 : v28.toInt = (bb 28 &&& (255 : Int32)).toInt := by rw [hv28, c_i2l]
  have rv28 : 0 ≤ v28.toInt ∧ v28.toInt < 256 := hv28 ▸ own_rv (bb 28)
  refine s_lstore (pc' := 40) X249.here hx (l' := #[.val (.ref a), .val (.int o), .val (.ref rr), .val (.int (224 : Int32)), .val (.long v28), .second]) (hb hby own_d2_38) rfl rfl ?_
  refine s_aloadN (pc' := 41) X249.here hx (hb hby own_d2_40) rfl rfl rfl ?_
  refine s_iloadN (pc' := 42) X249.here hx (hb hby own_d2_41) rfl rfl ?_
  refine s_bipush (pc' := 44) X249.here hx (v := (51 : Int32)) (hb hby own_d2_42) rfl rfl ?_
  refine s_idiv (pc' := 45) X249.here hx (hb hby own_d2_44) (by decide) rfl ?_
  refine s_dup2 (pc' := 46) X249.here hx (hb hby own_d2_45) rfl rfl rfl ?_
  rw [show ((224 : Int32) / (51 : Int32)) = (4 : Int32) from by decide]
  refine s_laload (pc' := 47) (v := (.long l4_27)) X249 hx hZ e249 V250 ⟨by decide, by decide⟩ rfl (hb hby own_d2_46) rfl ?_
  refine s_lload (pc' := 49) X249.here hx (hb hby own_d2_47) rfl rfl ?_
  refine s_iloadN (pc' := 50) X249.here hx (hb hby own_d2_49) rfl rfl ?_
  refine s_bipush (pc' := 52) X249.here hx (v := (51 : Int32)) (hb hby own_d2_50) rfl rfl ?_
  refine s_irem (pc' := 53) X249 hx (hb hby own_d2_52) (by decide) rfl ?_
  refine s_lshl (pc' := 54) X249.here hx (hb hby own_d2_53) rfl ?_
  refine s_ldcJ (pc' := 57) X249 hx hZ hown (hw _ (List.mem_of_getElem? (i := 10) rfl)) (hb hby own_d2_54) rfl ?_
  refine s_land (pc' := 58) X249.here hx (hb hby own_d2_57) rfl ?_
  refine s_lor (pc' := 59) X249.here hx (hb hby own_d2_58) rfl ?_
  rw [show ((224 : Int32) % (51 : Int32)) = (20 : Int32) from by decide]
  refine s_putJ (pc' := 60) X249 hx hZ e249 V250 ⟨by decide, by decide⟩ 4 rfl (Nat.le_of_ble_eq_true rfl) (hb hby own_d2_59) rfl fun T257 hp257 X257 e257 W257 Vw257 => ?_
  have V258 : Arv Z hp257 rr ka1 .long (5 : Int32) [(.long l0_6), (.long l1_12), (.long l2_19), (.long l3_25), (.long (l4_27 ||| ((v28 <<< ((20 : Int32) &&& 0x3f).toInt64) &&& (2251799813685247 : Int64))))] (.long (0 : Int64)) := Vw257
  have N257 := Fr.snoc X257 N249 g_rr
  have f259 := f251.other W257 ne2
  have Z260 : n0 ≤ hp257.size := Nat.le_trans Z252 (Keep.of_wr W257).1
  have K261 : Keep h0 hp257 [] := K253.wr W257 (Or.inr sz_rr)
  have el28 := own_limb20 l4_27 v28 el27.2 rv28
  obtain ⟨l4_28, hl4_28⟩ : ∃ y, y = (l4_27 ||| ((v28 <<< ((20 : Int32) &&& 0x3f).toInt64) &&& (2251799813685247 : Int64))) := ⟨_, rfl⟩
  rw [← hl4_28] at V258 el28
  refine s_iloadN (pc' := 61) X257.here hx (hb hby own_d2_60) rfl rfl ?_
  refine s_bipush (pc' := 63) X257.here hx (v := (51 : Int32)) (hb hby own_d2_61) rfl rfl ?_
  refine s_irem (pc' := 64) X257 hx (hb hby own_d2_63) (by decide) rfl ?_
  refine s_bipush (pc' := 66) X257.here hx (v := (43 : Int32)) (hb hby own_d2_64) rfl rfl ?_
  rw [show ((224 : Int32) % (51 : Int32)) = (20 : Int32) from by decide]
  have hk262 : ¬ ((43 : Int32) < (20 : Int32)) := by decide
  refine s_icmpYes (pc' := 100) X257.here hx (hb hby own_d2_66) (flt hk262).2.2.2 (by decide) (by decide) ?_
  refine s_iinc (pc' := 103) X257.here hx (v := (8 : Int32)) (l' := #[.val (.ref a), .val (.int o), .val (.ref rr), .val (.int ((224 : Int32) + (8 : Int32))), .val (.long v28), .second]) (hb hby own_d2_100) rfl rfl rfl rfl ?_
  refine s_goto (pc' := 6) X257.here hx (hb hby own_d2_103) (by decide) (by decide) ?_
  rw [show ((224 : Int32) + (8 : Int32)) = (232 : Int32) from by decide]
  refine s_iloadN (pc' := 7) X257.here hx (hb hby own_d2_6) rfl rfl ?_
  refine s_sipush (pc' := 10) X257.here hx (v := (255 : Int32)) (hb hby own_d2_7) rfl rfl ?_
  have hk263 : (232 : Int32) < (255 : Int32) := by decide
  refine s_icmpNo (pc' := 13) X257.here hx (hb hby own_d2_10) (tlt hk263).2.1 rfl ?_
  refine s_aloadN (pc' := 14) X257.here hx (hb hby own_d2_13) rfl rfl rfl ?_
  refine s_iloadN (pc' := 15) X257.here hx (hb hby own_d2_14) rfl rfl ?_
  refine s_iloadN (pc' := 16) X257.here hx (hb hby own_d2_15) rfl rfl ?_
  refine s_bipush (pc' := 18) X257.here hx (v := (8 : Int32)) (hb hby own_d2_16) rfl rfl ?_
  refine s_idiv (pc' := 19) X257.here hx (hb hby own_d2_18) (by decide) rfl ?_
  refine s_iadd (pc' := 20) X257.here hx (hb hby own_d2_19) rfl ?_
  rw [show ((232 : Int32) / (8 : Int32)) = (29 : Int32) from by decide]
  refine s_baload (pc' := 21) (v := (.int (bb 29))) X257 hx hZ e257 f259 ⟨ix29.1, ix29.2.1⟩ (by rw [ix29.2.2]; exact hbj 29 (by decide)) (hb hby own_d2_20) rfl ?_
  refine s_iloadN (pc' := 22) X257.here hx (hb hby own_d2_21) rfl rfl ?_
  refine s_sipush (pc' := 25) X257.here hx (v := (248 : Int32)) (hb hby own_d2_22) rfl rfl ?_
  have hk264 : ¬ ((232 : Int32) = (248 : Int32)) := by decide
  refine s_icmpYes (pc' := 33) X257.here hx (hb hby own_d2_25) (feq hk264).2 (by decide) (by decide) ?_
  refine s_sipush (pc' := 36) X257.here hx (v := (255 : Int32)) (hb hby own_d2_33) rfl rfl ?_
  refine s_iand (pc' := 37) X257.here hx (hb hby own_d2_36) rfl ?_
  refine s_i2l (pc' := 38) X257.here hx (hb hby own_d2_37) rfl ?_
  obtain ⟨v29, hv29⟩ : ∃ z : Int64, z = (((bb 29) &&& (255 : Int32)).toInt64) := ⟨_, rfl⟩
  rw [← hv29]
  have bv29 : v29.toInt = (bb 29 &&& (255 : Int32)).toInt := by rw [hv29, c_i2l]
  have rv29 : 0 ≤ v29.toInt ∧ v29.toInt < 256 := hv29 ▸ own_rv (bb 29)
  refine s_lstore (pc' := 40) X257.here hx (l' := #[.val (.ref a), .val (.int o), .val (.ref rr), .val (.int (232 : Int32)), .val (.long v29), .second]) (hb hby own_d2_38) rfl rfl ?_
  refine s_aloadN (pc' := 41) X257.here hx (hb hby own_d2_40) rfl rfl rfl ?_
  refine s_iloadN (pc' := 42) X257.here hx (hb hby own_d2_41) rfl rfl ?_
  refine s_bipush (pc' := 44) X257.here hx (v := (51 : Int32)) (hb hby own_d2_42) rfl rfl ?_
  refine s_idiv (pc' := 45) X257.here hx (hb hby own_d2_44) (by decide) rfl ?_
  refine s_dup2 (pc' := 46) X257.here hx (hb hby own_d2_45) rfl rfl rfl ?_
  rw [show ((232 : Int32) / (51 : Int32)) = (4 : Int32) from by decide]
  refine s_laload (pc' := 47) (v := (.long l4_28)) X257 hx hZ e257 V258 ⟨by decide, by decide⟩ rfl (hb hby own_d2_46) rfl ?_
  refine s_lload (pc' := 49) X257.here hx (hb hby own_d2_47) rfl rfl ?_
  refine s_iloadN (pc' := 50) X257.here hx (hb hby own_d2_49) rfl rfl ?_
  refine s_bipush (pc' := 52) X257.here hx (v := (51 : Int32)) (hb hby own_d2_50) rfl rfl ?_
  refine s_irem (pc' := 53) X257 hx (hb hby own_d2_52) (by decide) rfl ?_
  refine s_lshl (pc' := 54) X257.here hx (hb hby own_d2_53) rfl ?_
  refine s_ldcJ (pc' := 57) X257 hx hZ hown (hw _ (List.mem_of_getElem? (i := 10) rfl)) (hb hby own_d2_54) rfl ?_
  refine s_land (pc' := 58) X257.here hx (hb hby own_d2_57) rfl ?_
  refine s_lor (pc' := 59) X257.here hx (hb hby own_d2_58) rfl ?_
  rw [show ((232 : Int32) % (51 : Int32)) = (28 : Int32) from by decide]
  refine s_putJ (pc' := 60) X257 hx hZ e257 V258 ⟨by decide, by decide⟩ 4 rfl (Nat.le_of_ble_eq_true rfl) (hb hby own_d2_59) rfl fun T265 hp265 X265 e265 W265 Vw265 => ?_
  have V266 : Arv Z hp265 rr ka1 .long (5 : Int32) [(.long l0_6), (.long l1_12), (.long l2_19), (.long l3_25), (.long (l4_28 ||| ((v29 <<< ((28 : Int32) &&& 0x3f).toInt64) &&& (2251799813685247 : Int64))))] (.long (0 : Int64)) := Vw265
  have N265 := Fr.snoc X265 N257 g_rr
  have f267 := f259.other W265 ne2
  have Z268 : n0 ≤ hp265.size := Nat.le_trans Z260 (Keep.of_wr W265).1
  have K269 : Keep h0 hp265 [] := K261.wr W265 (Or.inr sz_rr)
  have el29 := own_limb28 l4_28 v29 el28.2 rv29
  obtain ⟨l4_29, hl4_29⟩ : ∃ y, y = (l4_28 ||| ((v29 <<< ((28 : Int32) &&& 0x3f).toInt64) &&& (2251799813685247 : Int64))) := ⟨_, rfl⟩
  rw [← hl4_29] at V266 el29
  refine s_iloadN (pc' := 61) X265.here hx (hb hby own_d2_60) rfl rfl ?_
  refine s_bipush (pc' := 63) X265.here hx (v := (51 : Int32)) (hb hby own_d2_61) rfl rfl ?_
  refine s_irem (pc' := 64) X265 hx (hb hby own_d2_63) (by decide) rfl ?_
  refine s_bipush (pc' := 66) X265.here hx (v := (43 : Int32)) (hb hby own_d2_64) rfl rfl ?_
  rw [show ((232 : Int32) % (51 : Int32)) = (28 : Int32) from by decide]
  have hk270 : ¬ ((43 : Int32) < (28 : Int32)) := by decide
  refine s_icmpYes (pc' := 100) X265.here hx (hb hby own_d2_66) (flt hk270).2.2.2 (by decide) (by decide) ?_
  refine s_iinc (pc' := 103) X265.here hx (v := (8 : Int32)) (l' := #[.val (.ref a), .val (.int o), .val (.ref rr), .val (.int ((232 : Int32) + (8 : Int32))), .val (.long v29), .second]) (hb hby own_d2_100) rfl rfl rfl rfl ?_
  refine s_goto (pc' := 6) X265.here hx (hb hby own_d2_103) (by decide) (by decide) ?_
  rw [show ((232 : Int32) + (8 : Int32)) = (240 : Int32) from by decide]
  refine s_iloadN (pc' := 7) X265.here hx (hb hby own_d2_6) rfl rfl ?_
  refine s_sipush (pc' := 10) X265.here hx (v := (255 : Int32)) (hb hby own_d2_7) rfl rfl ?_
  have hk271 : (240 : Int32) < (255 : Int32) := by decide
  refine s_icmpNo (pc' := 13) X265.here hx (hb hby own_d2_10) (tlt hk271).2.1 rfl ?_
  refine s_aloadN (pc' := 14) X265.here hx (hb hby own_d2_13) rfl rfl rfl ?_
  refine s_iloadN (pc' := 15) X265.here hx (hb hby own_d2_14) rfl rfl ?_
  refine s_iloadN (pc' := 16) X265.here hx (hb hby own_d2_15) rfl rfl ?_
  refine s_bipush (pc' := 18) X265.here hx (v := (8 : Int32)) (hb hby own_d2_16) rfl rfl ?_
  refine s_idiv (pc' := 19) X265.here hx (hb hby own_d2_18) (by decide) rfl ?_
  refine s_iadd (pc' := 20) X265.here hx (hb hby own_d2_19) rfl ?_
  rw [show ((240 : Int32) / (8 : Int32)) = (30 : Int32) from by decide]
  refine s_baload (pc' := 21) (v := (.int (bb 30))) X265 hx hZ e265 f267 ⟨ix30.1, ix30.2.1⟩ (by rw [ix30.2.2]; exact hbj 30 (by decide)) (hb hby own_d2_20) rfl ?_
  refine s_iloadN (pc' := 22) X265.here hx (hb hby own_d2_21) rfl rfl ?_
  refine s_sipush (pc' := 25) X265.here hx (v := (248 : Int32)) (hb hby own_d2_22) rfl rfl ?_
  have hk272 : ¬ ((240 : Int32) = (248 : Int32)) := by decide
  refine s_icmpYes (pc' := 33) X265.here hx (hb hby own_d2_25) (feq hk272).2 (by decide) (by decide) ?_
  refine s_sipush (pc' := 36) X265.here hx (v := (255 : Int32)) (hb hby own_d2_33) rfl rfl ?_
  refine s_iand (pc' := 37) X265.here hx (hb hby own_d2_36) rfl ?_
  refine s_i2l (pc' := 38) X265.here hx (hb hby own_d2_37) rfl ?_
  obtain ⟨v30, hv30⟩ : ∃ z : Int64, z = (((bb 30) &&& (255 : Int32)).toInt64) := ⟨_, rfl⟩
  rw [← hv30]
  have bv30 : v30.toInt = (bb 30 &&& (255 : Int32)).toInt := by rw [hv30, c_i2l]
  have rv30 : 0 ≤ v30.toInt ∧ v30.toInt < 256 := hv30 ▸ own_rv (bb 30)
  refine s_lstore (pc' := 40) X265.here hx (l' := #[.val (.ref a), .val (.int o), .val (.ref rr), .val (.int (240 : Int32)), .val (.long v30), .second]) (hb hby own_d2_38) rfl rfl ?_
  refine s_aloadN (pc' := 41) X265.here hx (hb hby own_d2_40) rfl rfl rfl ?_
  refine s_iloadN (pc' := 42) X265.here hx (hb hby own_d2_41) rfl rfl ?_
  refine s_bipush (pc' := 44) X265.here hx (v := (51 : Int32)) (hb hby own_d2_42) rfl rfl ?_
  refine s_idiv (pc' := 45) X265.here hx (hb hby own_d2_44) (by decide) rfl ?_
  refine s_dup2 (pc' := 46) X265.here hx (hb hby own_d2_45) rfl rfl rfl ?_
  rw [show ((240 : Int32) / (51 : Int32)) = (4 : Int32) from by decide]
  refine s_laload (pc' := 47) (v := (.long l4_29)) X265 hx hZ e265 V266 ⟨by decide, by decide⟩ rfl (hb hby own_d2_46) rfl ?_
  refine s_lload (pc' := 49) X265.here hx (hb hby own_d2_47) rfl rfl ?_
  refine s_iloadN (pc' := 50) X265.here hx (hb hby own_d2_49) rfl rfl ?_
  refine s_bipush (pc' := 52) X265.here hx (v := (51 : Int32)) (hb hby own_d2_50) rfl rfl ?_
  refine s_irem (pc' := 53) X265 hx (hb hby own_d2_52) (by decide) rfl ?_
  refine s_lshl (pc' := 54) X265.here hx (hb hby own_d2_53) rfl ?_
  refine s_ldcJ (pc' := 57) X265 hx hZ hown (hw _ (List.mem_of_getElem? (i := 10) rfl)) (hb hby own_d2_54) rfl ?_
  refine s_land (pc' := 58) X265.here hx (hb hby own_d2_57) rfl ?_
  refine s_lor (pc' := 59) X265.here hx (hb hby own_d2_58) rfl ?_
  rw [show ((240 : Int32) % (51 : Int32)) = (36 : Int32) from by decide]
  refine s_putJ (pc' := 60) X265 hx hZ e265 V266 ⟨by decide, by decide⟩ 4 rfl (Nat.le_of_ble_eq_true rfl) (hb hby own_d2_59) rfl fun T273 hp273 X273 e273 W273 Vw273 => ?_
  have V274 : Arv Z hp273 rr ka1 .long (5 : Int32) [(.long l0_6), (.long l1_12), (.long l2_19), (.long l3_25), (.long (l4_29 ||| ((v30 <<< ((36 : Int32) &&& 0x3f).toInt64) &&& (2251799813685247 : Int64))))] (.long (0 : Int64)) := Vw273
  have N273 := Fr.snoc X273 N265 g_rr
  have f275 := f267.other W273 ne2
  have Z276 : n0 ≤ hp273.size := Nat.le_trans Z268 (Keep.of_wr W273).1
  have K277 : Keep h0 hp273 [] := K269.wr W273 (Or.inr sz_rr)
  have el30 := own_limb36 l4_29 v30 el29.2 rv30
  obtain ⟨l4_30, hl4_30⟩ : ∃ y, y = (l4_29 ||| ((v30 <<< ((36 : Int32) &&& 0x3f).toInt64) &&& (2251799813685247 : Int64))) := ⟨_, rfl⟩
  rw [← hl4_30] at V274 el30
  refine s_iloadN (pc' := 61) X273.here hx (hb hby own_d2_60) rfl rfl ?_
  refine s_bipush (pc' := 63) X273.here hx (v := (51 : Int32)) (hb hby own_d2_61) rfl rfl ?_
  refine s_irem (pc' := 64) X273 hx (hb hby own_d2_63) (by decide) rfl ?_
  refine s_bipush (pc' := 66) X273.here hx (v := (43 : Int32)) (hb hby own_d2_64) rfl rfl ?_
  rw [show ((240 : Int32) % (51 : Int32)) = (36 : Int32) from by decide]
  have hk278 : ¬ ((43 : Int32) < (36 : Int32)) := by decide
  refine s_icmpYes (pc' := 100) X273.here hx (hb hby own_d2_66) (flt hk278).2.2.2 (by decide) (by decide) ?_
  refine s_iinc (pc' := 103) X273.here hx (v := (8 : Int32)) (l' := #[.val (.ref a), .val (.int o), .val (.ref rr), .val (.int ((240 : Int32) + (8 : Int32))), .val (.long v30), .second]) (hb hby own_d2_100) rfl rfl rfl rfl ?_
  refine s_goto (pc' := 6) X273.here hx (hb hby own_d2_103) (by decide) (by decide) ?_
  rw [show ((240 : Int32) + (8 : Int32)) = (248 : Int32) from by decide]
  refine s_iloadN (pc' := 7) X273.here hx (hb hby own_d2_6) rfl rfl ?_
  refine s_sipush (pc' := 10) X273.here hx (v := (255 : Int32)) (hb hby own_d2_7) rfl rfl ?_
  have hk279 : (248 : Int32) < (255 : Int32) := by decide
  refine s_icmpNo (pc' := 13) X273.here hx (hb hby own_d2_10) (tlt hk279).2.1 rfl ?_
  refine s_aloadN (pc' := 14) X273.here hx (hb hby own_d2_13) rfl rfl rfl ?_
  refine s_iloadN (pc' := 15) X273.here hx (hb hby own_d2_14) rfl rfl ?_
  refine s_iloadN (pc' := 16) X273.here hx (hb hby own_d2_15) rfl rfl ?_
  refine s_bipush (pc' := 18) X273.here hx (v := (8 : Int32)) (hb hby own_d2_16) rfl rfl ?_
  refine s_idiv (pc' := 19) X273.here hx (hb hby own_d2_18) (by decide) rfl ?_
  refine s_iadd (pc' := 20) X273.here hx (hb hby own_d2_19) rfl ?_
  rw [show ((248 : Int32) / (8 : Int32)) = (31 : Int32) from by decide]
  refine s_baload (pc' := 21) (v := (.int (bb 31))) X273 hx hZ e273 f275 ⟨ix31.1, ix31.2.1⟩ (by rw [ix31.2.2]; exact hbj 31 (by decide)) (hb hby own_d2_20) rfl ?_
  refine s_iloadN (pc' := 22) X273.here hx (hb hby own_d2_21) rfl rfl ?_
  refine s_sipush (pc' := 25) X273.here hx (v := (248 : Int32)) (hb hby own_d2_22) rfl rfl ?_
  have hk280 : (248 : Int32) = (248 : Int32) := by decide
  refine s_icmpNo (pc' := 28) X273.here hx (hb hby own_d2_25) (teq hk280).2 rfl ?_
  refine s_bipush (pc' := 30) X273.here hx (v := (127 : Int32)) (hb hby own_d2_28) rfl rfl ?_
  refine s_goto (pc' := 36) X273.here hx (hb hby own_d2_30) (by decide) (by decide) ?_
  refine s_iand (pc' := 37) X273.here hx (hb hby own_d2_36) rfl ?_
  refine s_i2l (pc' := 38) X273.here hx (hb hby own_d2_37) rfl ?_
  obtain ⟨v31, hv31⟩ : ∃ z : Int64, z = (((bb 31) &&& (127 : Int32)).toInt64) := ⟨_, rfl⟩
  rw [← hv31]
  have bv31 : v31.toInt = (bb 31 &&& (127 : Int32)).toInt := by rw [hv31, c_i2l]
  have rv31 : 0 ≤ v31.toInt ∧ v31.toInt < 256 := hv31 ▸ own_rv7 (bb 31)
  refine s_lstore (pc' := 40) X273.here hx (l' := #[.val (.ref a), .val (.int o), .val (.ref rr), .val (.int (248 : Int32)), .val (.long v31), .second]) (hb hby own_d2_38) rfl rfl ?_
  refine s_aloadN (pc' := 41) X273.here hx (hb hby own_d2_40) rfl rfl rfl ?_
  refine s_iloadN (pc' := 42) X273.here hx (hb hby own_d2_41) rfl rfl ?_
  refine s_bipush (pc' := 44) X273.here hx (v := (51 : Int32)) (hb hby own_d2_42) rfl rfl ?_
  refine s_idiv (pc' := 45) X273.here hx (hb hby own_d2_44) (by decide) rfl ?_
  refine s_dup2 (pc' := 46) X273.here hx (hb hby own_d2_45) rfl rfl rfl ?_
  rw [show ((248 : Int32) / (51 : Int32)) = (4 : Int32) from by decide]
  refine s_laload (pc' := 47) (v := (.long l4_30)) X273 hx hZ e273 V274 ⟨by decide, by decide⟩ rfl (hb hby own_d2_46) rfl ?_
  refine s_lload (pc' := 49) X273.here hx (hb hby own_d2_47) rfl rfl ?_
  refine s_iloadN (pc' := 50) X273.here hx (hb hby own_d2_49) rfl rfl ?_
  refine s_bipush (pc' := 52) X273.here hx (v := (51 : Int32)) (hb hby own_d2_50) rfl rfl ?_
  refine s_irem (pc' := 53) X273 hx (hb hby own_d2_52) (by decide) rfl ?_
  refine s_lshl (pc' := 54) X273.here hx (hb hby own_d2_53) rfl ?_
  refine s_ldcJ (pc' := 57) X273 hx hZ hown (hw _ (List.mem_of_getElem? (i := 10) rfl)) (hb hby own_d2_54) rfl ?_
  refine s_land (pc' := 58) X273.here hx (hb hby own_d2_57) rfl ?_
  refine s_lor (pc' := 59) X273.here hx (hb hby own_d2_58) rfl ?_
  rw [show ((248 : Int32) % (51 : Int32)) = (44 : Int32) from by decide]
  refine s_putJ (pc' := 60) X273 hx hZ e273 V274 ⟨by decide, by decide⟩ 4 rfl (Nat.le_of_ble_eq_true rfl) (hb hby own_d2_59) rfl fun T281 hp281 X281 e281 W281 Vw281 => ?_
  have V282 : Arv Z hp281 rr ka1 .long (5 : Int32) [(.long l0_6), (.long l1_12), (.long l2_19), (.long l3_25), (.long (l4_30 ||| ((v31 <<< ((44 : Int32) &&& 0x3f).toInt64) &&& (2251799813685247 : Int64))))] (.long (0 : Int64)) := Vw281
  have N281 := Fr.snoc X281 N273 g_rr
  have f283 := f275.other W281 ne2
  have Z284 : n0 ≤ hp281.size := Nat.le_trans Z276 (Keep.of_wr W281).1
  have K285 : Keep h0 hp281 [] := K277.wr W281 (Or.inr sz_rr)
  have el31 := own_limb44 l4_30 v31 el30.2 rv31
  obtain ⟨l4_31, hl4_31⟩ : ∃ y, y = (l4_30 ||| ((v31 <<< ((44 : Int32) &&& 0x3f).toInt64) &&& (2251799813685247 : Int64))) := ⟨_, rfl⟩
  rw [← hl4_31] at V282 el31
  refine s_iloadN (pc' := 61) X281.here hx (hb hby own_d2_60) rfl rfl ?_
  refine s_bipush (pc' := 63) X281.here hx (v := (51 : Int32)) (hb hby own_d2_61) rfl rfl ?_
  refine s_irem (pc' := 64) X281 hx (hb hby own_d2_63) (by decide) rfl ?_
  refine s_bipush (pc' := 66) X281.here hx (v := (43 : Int32)) (hb hby own_d2_64) rfl rfl ?_
  rw [show ((248 : Int32) % (51 : Int32)) = (44 : Int32) from by decide]
  have hk286 : (43 : Int32) < (44 : Int32) := by decide
  refine s_icmpNo (pc' := 69) X281.here hx (hb hby own_d2_66) (tlt hk286).2.2.2 rfl ?_
  refine s_iloadN (pc' := 70) X281.here hx (hb hby own_d2_69) rfl rfl ?_
  refine s_bipush (pc' := 72) X281.here hx (v := (51 : Int32)) (hb hby own_d2_70) rfl rfl ?_
  refine s_idiv (pc' := 73) X281.here hx (hb hby own_d2_72) (by decide) rfl ?_
  refine s_iconst (pc' := 74) X281.here hx (v := (1 : Int32)) (hb hby own_d2_73) rfl rfl ?_
  refine s_iadd (pc' := 75) X281.here hx (hb hby own_d2_74) rfl ?_
  refine s_iconst (pc' := 76) X281.here hx (v := (5 : Int32)) (hb hby own_d2_75) rfl rfl ?_
  rw [show (((248 : Int32) / (51 : Int32)) + (1 : Int32)) = (5 : Int32) from by decide]
  have hk287 : ¬ ((5 : Int32) < (5 : Int32)) := by decide
  refine s_icmpYes (pc' := 100) X281.here hx (hb hby own_d2_76) (flt hk287).2.1 (by decide) (by decide) ?_
  refine s_iinc (pc' := 103) X281.here hx (v := (8 : Int32)) (l' := #[.val (.ref a), .val (.int o), .val (.ref rr), .val (.int ((248 : Int32) + (8 : Int32))), .val (.long v31), .second]) (hb hby own_d2_100) rfl rfl rfl rfl ?_
  refine s_goto (pc' := 6) X281.here hx (hb hby own_d2_103) (by decide) (by decide) ?_
  rw [show ((248 : Int32) + (8 : Int32)) = (256 : Int32) from by decide]
  refine s_iloadN (pc' := 7) X281.here hx (hb hby own_d2_6) rfl rfl ?_
  refine s_sipush (pc' := 10) X281.here hx (v := (255 : Int32)) (hb hby own_d2_7) rfl rfl ?_
  have hk288 : ¬ ((256 : Int32) < (255 : Int32)) := by decide
  refine s_icmpYes (pc' := 106) X281.here hx (hb hby own_d2_10) (flt hk288).2.1 (by decide) (by decide) ?_
  have fin0 : l0_6 = r0 := Int64.toInt_inj.mp (by rw [hr0, el6.1, el5.1, el4.1, el3.1, el2.1, el1.1, el0.1, z64, Int.zero_add, bv0, bv1, bv2, bv3, bv4, bv5, bv6])
  have fin1 : l1_12 = r1 := Int64.toInt_inj.mp (by rw [hr1, el12.1, el11.1, el10.1, el9.1, el8.1, el7.1, eo6.1, bv6, bv7, bv8, bv9, bv10, bv11, bv12])
  have fin2 : l2_19 = r2 := Int64.toInt_inj.mp (by rw [hr2, el19.1, el18.1, el17.1, el16.1, el15.1, el14.1, el13.1, eo12.1, bv12, bv13, bv14, bv15, bv16, bv17, bv18, bv19])
  have fin3 : l3_25 = r3 := Int64.toInt_inj.mp (by rw [hr3, el25.1, el24.1, el23.1, el22.1, el21.1, el20.1, eo19.1, bv19, bv20, bv21, bv22, bv23, bv24, bv25])
  have fin4 : l4_31 = r4 := Int64.toInt_inj.mp (by rw [hr4, el31.1, el30.1, el29.1, el28.1, el27.1, el26.1, eo25.1, bv25, bv26, bv27, bv28, bv29, bv30, bv31])
  rw [fin0, fin1, fin2, fin3, fin4] at V282
  refine s_aloadN (pc' := 107) X281.here hx (hb hby own_d2_106) rfl rfl rfl ?_
  refine s_iconst (pc' := 108) X281.here hx (v := (0 : Int32)) (hb hby own_d2_107) rfl rfl ?_
  refine s_laload (pc' := 109) (v := (.long r0)) X281 hx hZ e281 V282 ⟨by decide, by decide⟩ rfl (hb hby own_d2_108) rfl ?_
  refine s_ldcJ (pc' := 112) X281 hx hZ hown (hw _ (List.mem_of_getElem? (i := 11) rfl)) (hb hby own_d2_109) rfl ?_
  refine s_lcmp (pc' := 113) X281.here hx (hb hby own_d2_112) rfl ?_
  by_cases c0 : r0 < (2251799813685229 : Int64)
  · refine s_ifYes (pc' := 156) X281.here hx (hb hby own_d2_113) ((if0 _ _).trans (tlt ((lw_lt r0 (2251799813685229 : Int64)).mpr c0)).1) (by decide) (by decide) ?_
    refine s_iconst (pc' := 157) X281.here hx (v := (1 : Int32)) (hb hby own_d2_156) rfl rfl ?_
    refine s_goto (pc' := 161) X281.here hx (hb hby own_d2_157) (by decide) (by decide) ?_
    refine s_istoreN (pc' := 162) X281.here hx (l' := #[.val (.ref a), .val (.int o), .val (.ref rr), .val (.int (1 : Int32)), .val (.long v31), .second]) (hb hby own_d2_161) rfl rfl ?_
    refine s_iloadN (pc' := 163) X281.here hx (hb hby own_d2_162) rfl rfl ?_
    have hk289 : ¬ ((1 : Int32) = (0 : Int32)) := by decide
    refine s_ifNo (pc' := 166) X281.here hx (hb hby own_d2_163) ((if0 _ _).trans (feq hk289).1) rfl ?_
    refine s_aloadN (pc' := 167) X281.here hx (hb hby own_d2_166) rfl rfl rfl ?_
    refine s_goto (pc' := 171) X281.here hx (hb hby own_d2_167) (by decide) (by decide) ?_
    obtain ⟨fs, hr, hrun, hended, hW, hsame⟩ := X281.leave (v := some (.ref rr)) (fun h => by rw [Bd.returns] at h; cases h)
    refine ⟨_, _, retOut X281 hx Bd.returns rfl (Or.inr (Or.inr (Or.inr (Or.inr ⟨rfl, rfl, rfl⟩)))) (hb hby own_d2_171) hr, hrun, hended, _, _, rfl, ?_, ⟨_, rfl⟩, hW, hsame.mono (by decide) (by decide)⟩
    show own_rm2_Q Z a o k vs n bb r0 r1 r2 r3 r4 h0 n0 _ T281.heap _
    rw [e281]
    exact ⟨rr, ka1, by simp only [own_res, c0, if_true, if_false], N281, K285, sz_rr, V282⟩
  · refine s_ifNo (pc' := 116) X281.here hx (hb hby own_d2_113) ((if0 _ _).trans (flt (fun q_ => c0 ((lw_lt r0 (2251799813685229 : Int64)).mp q_))).1) rfl ?_
    refine s_aloadN (pc' := 117) X281.here hx (hb hby own_d2_116) rfl rfl rfl ?_
    refine s_iconst (pc' := 118) X281.here hx (v := (1 : Int32)) (hb hby own_d2_117) rfl rfl ?_
    refine s_laload (pc' := 119) (v := (.long r1)) X281 hx hZ e281 V282 ⟨by decide, by decide⟩ rfl (hb hby own_d2_118) rfl ?_
    refine s_ldcJ (pc' := 122) X281 hx hZ hown (hw _ (List.mem_of_getElem? (i := 10) rfl)) (hb hby own_d2_119) rfl ?_
    refine s_lcmp (pc' := 123) X281.here hx (hb hby own_d2_122) rfl ?_
    by_cases c1 : r1 = (2251799813685247 : Int64)
    · refine s_ifNo (pc' := 126) X281.here hx (hb hby own_d2_123) ((if0 _ _).trans (teq ((lw_eq r1 (2251799813685247 : Int64)).mpr c1)).2) rfl ?_
      refine s_aloadN (pc' := 127) X281.here hx (hb hby own_d2_126) rfl rfl rfl ?_
      refine s_iconst (pc' := 128) X281.here hx (v := (2 : Int32)) (hb hby own_d2_127) rfl rfl ?_
      refine s_laload (pc' := 129) (v := (.long r2)) X281 hx hZ e281 V282 ⟨by decide, by decide⟩ rfl (hb hby own_d2_128) rfl ?_
      refine s_ldcJ (pc' := 132) X281 hx hZ hown (hw _ (List.mem_of_getElem? (i := 10) rfl)) (hb hby own_d2_129) rfl ?_
      refine s_lcmp (pc' := 133) X281.here hx (hb hby own_d2_132) rfl ?_
      by_cases c2 : r2 = (2251799813685247 : Int64)
      · refine s_ifNo (pc' := 136) X281.here hx (hb hby own_d2_133) ((if0 _ _).trans (teq ((lw_eq r2 (2251799813685247 : Int64)).mpr c2)).2) rfl ?_
        refine s_aloadN (pc' := 137) X281.here hx (hb hby own_d2_136) rfl rfl rfl ?_
        refine s_iconst (pc' := 138) X281.here hx (v := (3 : Int32)) (hb hby own_d2_137) rfl rfl ?_
        refine s_laload (pc' := 139) (v := (.long r3)) X281 hx hZ e281 V282 ⟨by decide, by decide⟩ rfl (hb hby own_d2_138) rfl ?_
        refine s_ldcJ (pc' := 142) X281 hx hZ hown (hw _ (List.mem_of_getElem? (i := 10) rfl)) (hb hby own_d2_139) rfl ?_
        refine s_lcmp (pc' := 143) X281.here hx (hb hby own_d2_142) rfl ?_
        by_cases c3 : r3 = (2251799813685247 : Int64)
        · refine s_ifNo (pc' := 146) X281.here hx (hb hby own_d2_143) ((if0 _ _).trans (teq ((lw_eq r3 (2251799813685247 : Int64)).mpr c3)).2) rfl ?_
          refine s_aloadN (pc' := 147) X281.here hx (hb hby own_d2_146) rfl rfl rfl ?_
          refine s_iconst (pc' := 148) X281.here hx (v := (4 : Int32)) (hb hby own_d2_147) rfl rfl ?_
          refine s_laload (pc' := 149) (v := (.long r4)) X281 hx hZ e281 V282 ⟨by decide, by decide⟩ rfl (hb hby own_d2_148) rfl ?_
          refine s_ldcJ (pc' := 152) X281 hx hZ hown (hw _ (List.mem_of_getElem? (i := 10) rfl)) (hb hby own_d2_149) rfl ?_
          refine s_lcmp (pc' := 153) X281.here hx (hb hby own_d2_152) rfl ?_
          by_cases c4 : r4 = (2251799813685247 : Int64)
          · refine s_ifYes (pc' := 160) X281.here hx (hb hby own_d2_153) ((if0 _ _).trans (teq ((lw_eq r4 (2251799813685247 : Int64)).mpr c4)).1) (by decide) (by decide) ?_
            refine s_iconst (pc' := 161) X281.here hx (v := (0 : Int32)) (hb hby own_d2_160) rfl rfl ?_
            refine s_istoreN (pc' := 162) X281.here hx (l' := #[.val (.ref a), .val (.int o), .val (.ref rr), .val (.int (0 : Int32)), .val (.long v31), .second]) (hb hby own_d2_161) rfl rfl ?_
            refine s_iloadN (pc' := 163) X281.here hx (hb hby own_d2_162) rfl rfl ?_
            have hk294 : (0 : Int32) = (0 : Int32) := by decide
            refine s_ifYes (pc' := 170) X281.here hx (hb hby own_d2_163) ((if0 _ _).trans (teq hk294).1) (by decide) (by decide) ?_
            refine s_aconstNull (pc' := 171) X281.here hx (hb hby own_d2_170) rfl ?_
            obtain ⟨fs, hr, hrun, hended, hW, hsame⟩ := X281.leave (v := some .null) (fun h => by rw [Bd.returns] at h; cases h)
            refine ⟨_, _, retOut X281 hx Bd.returns rfl (Or.inr (Or.inr (Or.inr (Or.inr ⟨rfl, rfl, rfl⟩)))) (hb hby own_d2_171) hr, hrun, hended, _, _, rfl, ?_, ⟨_, rfl⟩, hW, hsame.mono (by decide) (by decide)⟩
            show own_rm2_Q Z a o k vs n bb r0 r1 r2 r3 r4 h0 n0 _ T281.heap _
            rw [e281]
            exact ⟨rr, ka1, by simp only [own_res, c0, c1, c2, c3, c4, if_true, if_false], N281, K285, sz_rr, V282⟩
          · refine s_ifNo (pc' := 156) X281.here hx (hb hby own_d2_153) ((if0 _ _).trans (feq (fun q_ => c4 ((lw_eq r4 (2251799813685247 : Int64)).mp q_))).1) rfl ?_
            refine s_iconst (pc' := 157) X281.here hx (v := (1 : Int32)) (hb hby own_d2_156) rfl rfl ?_
            refine s_goto (pc' := 161) X281.here hx (hb hby own_d2_157) (by decide) (by decide) ?_
            refine s_istoreN (pc' := 162) X281.here hx (l' := #[.val (.ref a), .val (.int o), .val (.ref rr), .val (.int (1 : Int32)), .val (.long v31), .second]) (hb hby own_d2_161) rfl rfl ?_
            refine s_iloadN (pc' := 163) X281.here hx (hb hby own_d2_162) rfl rfl ?_
            have hk293 : ¬ ((1 : Int32) = (0 : Int32)) := by decide
            refine s_ifNo (pc' := 166) X281.here hx (hb hby own_d2_163) ((if0 _ _).trans (feq hk293).1) rfl ?_
            refine s_aloadN (pc' := 167) X281.here hx (hb hby own_d2_166) rfl rfl rfl ?_
            refine s_goto (pc' := 171) X281.here hx (hb hby own_d2_167) (by decide) (by decide) ?_
            obtain ⟨fs, hr, hrun, hended, hW, hsame⟩ := X281.leave (v := some (.ref rr)) (fun h => by rw [Bd.returns] at h; cases h)
            refine ⟨_, _, retOut X281 hx Bd.returns rfl (Or.inr (Or.inr (Or.inr (Or.inr ⟨rfl, rfl, rfl⟩)))) (hb hby own_d2_171) hr, hrun, hended, _, _, rfl, ?_, ⟨_, rfl⟩, hW, hsame.mono (by decide) (by decide)⟩
            show own_rm2_Q Z a o k vs n bb r0 r1 r2 r3 r4 h0 n0 _ T281.heap _
            rw [e281]
            exact ⟨rr, ka1, by simp only [own_res, c0, c1, c2, c3, c4, if_true, if_false], N281, K285, sz_rr, V282⟩
        · refine s_ifYes (pc' := 156) X281.here hx (hb hby own_d2_143) ((if0 _ _).trans (feq (fun q_ => c3 ((lw_eq r3 (2251799813685247 : Int64)).mp q_))).2) (by decide) (by decide) ?_
          refine s_iconst (pc' := 157) X281.here hx (v := (1 : Int32)) (hb hby own_d2_156) rfl rfl ?_
          refine s_goto (pc' := 161) X281.here hx (hb hby own_d2_157) (by decide) (by decide) ?_
          refine s_istoreN (pc' := 162) X281.here hx (l' := #[.val (.ref a), .val (.int o), .val (.ref rr), .val (.int (1 : Int32)), .val (.long v31), .second]) (hb hby own_d2_161) rfl rfl ?_
          refine s_iloadN (pc' := 163) X281.here hx (hb hby own_d2_162) rfl rfl ?_
          have hk292 : ¬ ((1 : Int32) = (0 : Int32)) := by decide
          refine s_ifNo (pc' := 166) X281.here hx (hb hby own_d2_163) ((if0 _ _).trans (feq hk292).1) rfl ?_
          refine s_aloadN (pc' := 167) X281.here hx (hb hby own_d2_166) rfl rfl rfl ?_
          refine s_goto (pc' := 171) X281.here hx (hb hby own_d2_167) (by decide) (by decide) ?_
          obtain ⟨fs, hr, hrun, hended, hW, hsame⟩ := X281.leave (v := some (.ref rr)) (fun h => by rw [Bd.returns] at h; cases h)
          refine ⟨_, _, retOut X281 hx Bd.returns rfl (Or.inr (Or.inr (Or.inr (Or.inr ⟨rfl, rfl, rfl⟩)))) (hb hby own_d2_171) hr, hrun, hended, _, _, rfl, ?_, ⟨_, rfl⟩, hW, hsame.mono (by decide) (by decide)⟩
          show own_rm2_Q Z a o k vs n bb r0 r1 r2 r3 r4 h0 n0 _ T281.heap _
          rw [e281]
          exact ⟨rr, ka1, by simp only [own_res, c0, c1, c2, c3, if_true, if_false], N281, K285, sz_rr, V282⟩
      · refine s_ifYes (pc' := 156) X281.here hx (hb hby own_d2_133) ((if0 _ _).trans (feq (fun q_ => c2 ((lw_eq r2 (2251799813685247 : Int64)).mp q_))).2) (by decide) (by decide) ?_
        refine s_iconst (pc' := 157) X281.here hx (v := (1 : Int32)) (hb hby own_d2_156) rfl rfl ?_
        refine s_goto (pc' := 161) X281.here hx (hb hby own_d2_157) (by decide) (by decide) ?_
        refine s_istoreN (pc' := 162) X281.here hx (l' := #[.val (.ref a), .val (.int o), .val (.ref rr), .val (.int (1 : Int32)), .val (.long v31), .second]) (hb hby own_d2_161) rfl rfl ?_
        refine s_iloadN (pc' := 163) X281.here hx (hb hby own_d2_162) rfl rfl ?_
        have hk291 : ¬ ((1 : Int32) = (0 : Int32)) := by decide
        refine s_ifNo (pc' := 166) X281.here hx (hb hby own_d2_163) ((if0 _ _).trans (feq hk291).1) rfl ?_
        refine s_aloadN (pc' := 167) X281.here hx (hb hby own_d2_166) rfl rfl rfl ?_
        refine s_goto (pc' := 171) X281.here hx (hb hby own_d2_167) (by decide) (by decide) ?_
        obtain ⟨fs, hr, hrun, hended, hW, hsame⟩ := X281.leave (v := some (.ref rr)) (fun h => by rw [Bd.returns] at h; cases h)
        refine ⟨_, _, retOut X281 hx Bd.returns rfl (Or.inr (Or.inr (Or.inr (Or.inr ⟨rfl, rfl, rfl⟩)))) (hb hby own_d2_171) hr, hrun, hended, _, _, rfl, ?_, ⟨_, rfl⟩, hW, hsame.mono (by decide) (by decide)⟩
        show own_rm2_Q Z a o k vs n bb r0 r1 r2 r3 r4 h0 n0 _ T281.heap _
        rw [e281]
        exact ⟨rr, ka1, by simp only [own_res, c0, c1, c2, if_true, if_false], N281, K285, sz_rr, V282⟩
    · refine s_ifYes (pc' := 156) X281.here hx (hb hby own_d2_123) ((if0 _ _).trans (feq (fun q_ => c1 ((lw_eq r1 (2251799813685247 : Int64)).mp q_))).2) (by decide) (by decide) ?_
      refine s_iconst (pc' := 157) X281.here hx (v := (1 : Int32)) (hb hby own_d2_156) rfl rfl ?_
      refine s_goto (pc' := 161) X281.here hx (hb hby own_d2_157) (by decide) (by decide) ?_
      refine s_istoreN (pc' := 162) X281.here hx (l' := #[.val (.ref a), .val (.int o), .val (.ref rr), .val (.int (1 : Int32)), .val (.long v31), .second]) (hb hby own_d2_161) rfl rfl ?_
      refine s_iloadN (pc' := 163) X281.here hx (hb hby own_d2_162) rfl rfl ?_
      have hk290 : ¬ ((1 : Int32) = (0 : Int32)) := by decide
      refine s_ifNo (pc' := 166) X281.here hx (hb hby own_d2_163) ((if0 _ _).trans (feq hk290).1) rfl ?_
      refine s_aloadN (pc' := 167) X281.here hx (hb hby own_d2_166) rfl rfl rfl ?_
      refine s_goto (pc' := 171) X281.here hx (hb hby own_d2_167) (by decide) (by decide) ?_
      obtain ⟨fs, hr, hrun, hended, hW, hsame⟩ := X281.leave (v := some (.ref rr)) (fun h => by rw [Bd.returns] at h; cases h)
      refine ⟨_, _, retOut X281 hx Bd.returns rfl (Or.inr (Or.inr (Or.inr (Or.inr ⟨rfl, rfl, rfl⟩)))) (hb hby own_d2_171) hr, hrun, hended, _, _, rfl, ?_, ⟨_, rfl⟩, hW, hsame.mono (by decide) (by decide)⟩
      show own_rm2_Q Z a o k vs n bb r0 r1 r2 r3 r4 h0 n0 _ T281.heap _
      rw [e281]
      exact ⟨rr, ka1, by simp only [own_res, c0, c1, if_true, if_false], N281, K285, sz_rr, V282⟩
def own_bb (w0 w1 w2 w3 : Int64) : Nat → Int32
  | 0 => own_b0 w0
  | 1 => own_b1 w0
  | 2 => own_b2 w0
  | 3 => own_b3 w0
  | 4 => own_b4 w0
  | 5 => own_b5 w0
  | 6 => own_b6 w0
  | 7 => own_b7 w0
  | 8 => own_b0 w1
  | 9 => own_b1 w1
  | 10 => own_b2 w1
  | 11 => own_b3 w1
  | 12 => own_b4 w1
  | 13 => own_b5 w1
  | 14 => own_b6 w1
  | 15 => own_b7 w1
  | 16 => own_b0 w2
  | 17 => own_b1 w2
  | 18 => own_b2 w2
  | 19 => own_b3 w2
  | 20 => own_b4 w2
  | 21 => own_b5 w2
  | 22 => own_b6 w2
  | 23 => own_b7 w2
  | 24 => own_b0 w3
  | 25 => own_b1 w3
  | 26 => own_b2 w3
  | 27 => own_b3 w3
  | 28 => own_b4 w3
  | 29 => own_b5 w3
  | 30 => own_b6 w3
  | 31 => own_b7 w3
  | _ => 0
def own_e0 (w0 : Int64) : Int64 := (w0 &&& (2251799813685247 : Int64))
def own_e1 (w0 w1 : Int64) : Int64 := ((((w0.toUInt64 >>> ((51 : Int32) &&& 0x3f).toInt64.toUInt64).toInt64) ||| (w1 <<< ((13 : Int32) &&& 0x3f).toInt64)) &&& (2251799813685247 : Int64))
def own_e2 (w1 w2 : Int64) : Int64 := ((((w1.toUInt64 >>> ((38 : Int32) &&& 0x3f).toInt64.toUInt64).toInt64) ||| (w2 <<< ((26 : Int32) &&& 0x3f).toInt64)) &&& (2251799813685247 : Int64))
def own_e3 (w2 w3 : Int64) : Int64 := ((((w2.toUInt64 >>> ((25 : Int32) &&& 0x3f).toInt64.toUInt64).toInt64) ||| (w3 <<< ((39 : Int32) &&& 0x3f).toInt64)) &&& (2251799813685247 : Int64))
def own_e4 (w3 : Int64) : Int64 := (((w3.toUInt64 >>> ((12 : Int32) &&& 0x3f).toInt64.toUInt64).toInt64) &&& (2251799813685247 : Int64))
theorem own_n0 (w0 : Int64) : (own_e0 w0).toInt = w0.toInt % 18446744073709551616 % 2251799813685248 := by
  have a := c_maskL w0 2251799813685247 51 (by decide) (by decide)
  unfold own_e0
  omega
theorem own_n1 (w0 w1 : Int64) : (own_e1 w0 w1).toInt = w0.toInt % 18446744073709551616 / 2251799813685248 + 8192 * (w1.toInt % 18446744073709551616 % 274877906944) := by
  have a := c_lushr w0 51 51 (by decide) (by decide)
  have b := c_lshl w1 13 13 (by decide)
  have o := c_orL' ((w0.toUInt64 >>> ((51 : Int32) &&& 0x3f).toInt64.toUInt64).toInt64) (w1 <<< ((13 : Int32) &&& 0x3f).toInt64) 13 (by decide) 8192 (by decide) (by omega) (by omega) (by omega)
  have q := c_maskL (((w0.toUInt64 >>> ((51 : Int32) &&& 0x3f).toInt64.toUInt64).toInt64) ||| (w1 <<< ((13 : Int32) &&& 0x3f).toInt64)) 2251799813685247 51 (by decide) (by decide)
  unfold own_e1
  omega
theorem own_n2 (w1 w2 : Int64) : (own_e2 w1 w2).toInt = w1.toInt % 18446744073709551616 / 274877906944 + 67108864 * (w2.toInt % 18446744073709551616 % 33554432) := by
  have a := c_lushr w1 38 38 (by decide) (by decide)
  have b := c_lshl w2 26 26 (by decide)
  have o := c_orL' ((w1.toUInt64 >>> ((38 : Int32) &&& 0x3f).toInt64.toUInt64).toInt64) (w2 <<< ((26 : Int32) &&& 0x3f).toInt64) 26 (by decide) 67108864 (by decide) (by omega) (by omega) (by omega)
  have q := c_maskL (((w1.toUInt64 >>> ((38 : Int32) &&& 0x3f).toInt64.toUInt64).toInt64) ||| (w2 <<< ((26 : Int32) &&& 0x3f).toInt64)) 2251799813685247 51 (by decide) (by decide)
  unfold own_e2
  omega
theorem own_n3 (w2 w3 : Int64) : (own_e3 w2 w3).toInt = w2.toInt % 18446744073709551616 / 33554432 + 549755813888 * (w3.toInt % 18446744073709551616 % 4096) := by
  have a := c_lushr w2 25 25 (by decide) (by decide)
  have b := c_lshl w3 39 39 (by decide)
  have o := c_orL' ((w2.toUInt64 >>> ((25 : Int32) &&& 0x3f).toInt64.toUInt64).toInt64) (w3 <<< ((39 : Int32) &&& 0x3f).toInt64) 39 (by decide) 549755813888 (by decide) (by omega) (by omega) (by omega)
  have q := c_maskL (((w2.toUInt64 >>> ((25 : Int32) &&& 0x3f).toInt64.toUInt64).toInt64) ||| (w3 <<< ((39 : Int32) &&& 0x3f).toInt64)) 2251799813685247 51 (by decide) (by decide)
  unfold own_e3
  omega
theorem own_n4 (w3 : Int64) : (own_e4 w3).toInt = w3.toInt % 18446744073709551616 / 4096 % 2251799813685248 := by
  have a := c_lushr w3 12 12 (by decide) (by decide)
  have q := c_maskL ((w3.toUInt64 >>> ((12 : Int32) &&& 0x3f).toInt64.toUInt64).toInt64) 2251799813685247 51 (by decide) (by decide)
  unfold own_e4
  omega
theorem own_f0 (w0 w1 w2 w3 : Int64) : (own_e0 w0).toInt = (own_bb w0 w1 w2 w3 0 &&& (255 : Int32)).toInt * 1 % 2251799813685248 + (own_bb w0 w1 w2 w3 1 &&& (255 : Int32)).toInt * 256 % 2251799813685248 + (own_bb w0 w1 w2 w3 2 &&& (255 : Int32)).toInt * 65536 % 2251799813685248 + (own_bb w0 w1 w2 w3 3 &&& (255 : Int32)).toInt * 16777216 % 2251799813685248 + (own_bb w0 w1 w2 w3 4 &&& (255 : Int32)).toInt * 4294967296 % 2251799813685248 + (own_bb w0 w1 w2 w3 5 &&& (255 : Int32)).toInt * 1099511627776 % 2251799813685248 + (own_bb w0 w1 w2 w3 6 &&& (255 : Int32)).toInt * 281474976710656 % 2251799813685248 := by
  show (own_e0 w0).toInt = (own_b0 w0 &&& (255 : Int32)).toInt * 1 % 2251799813685248 + (own_b1 w0 &&& (255 : Int32)).toInt * 256 % 2251799813685248 + (own_b2 w0 &&& (255 : Int32)).toInt * 65536 % 2251799813685248 + (own_b3 w0 &&& (255 : Int32)).toInt * 16777216 % 2251799813685248 + (own_b4 w0 &&& (255 : Int32)).toInt * 4294967296 % 2251799813685248 + (own_b5 w0 &&& (255 : Int32)).toInt * 1099511627776 % 2251799813685248 + (own_b6 w0 &&& (255 : Int32)).toInt * 281474976710656 % 2251799813685248
  rw [own_n0, own_u0_255, own_u1_255, own_u2_255, own_u3_255, own_u4_255, own_u5_255, own_u6_255]
  have r0 : 0 ≤ w0.toInt % 18446744073709551616 ∧ w0.toInt % 18446744073709551616 < 18446744073709551616 := by omega
  generalize w0.toInt % 18446744073709551616 = W0 at *
  omega
theorem own_f1 (w0 w1 w2 w3 : Int64) : (own_e1 w0 w1).toInt = (own_bb w0 w1 w2 w3 6 &&& (255 : Int32)).toInt / 8 + (own_bb w0 w1 w2 w3 7 &&& (255 : Int32)).toInt * 32 % 2251799813685248 + (own_bb w0 w1 w2 w3 8 &&& (255 : Int32)).toInt * 8192 % 2251799813685248 + (own_bb w0 w1 w2 w3 9 &&& (255 : Int32)).toInt * 2097152 % 2251799813685248 + (own_bb w0 w1 w2 w3 10 &&& (255 : Int32)).toInt * 536870912 % 2251799813685248 + (own_bb w0 w1 w2 w3 11 &&& (255 : Int32)).toInt * 137438953472 % 2251799813685248 + (own_bb w0 w1 w2 w3 12 &&& (255 : Int32)).toInt * 35184372088832 % 2251799813685248 := by
  show (own_e1 w0 w1).toInt = (own_b6 w0 &&& (255 : Int32)).toInt / 8 + (own_b7 w0 &&& (255 : Int32)).toInt * 32 % 2251799813685248 + (own_b0 w1 &&& (255 : Int32)).toInt * 8192 % 2251799813685248 + (own_b1 w1 &&& (255 : Int32)).toInt * 2097152 % 2251799813685248 + (own_b2 w1 &&& (255 : Int32)).toInt * 536870912 % 2251799813685248 + (own_b3 w1 &&& (255 : Int32)).toInt * 137438953472 % 2251799813685248 + (own_b4 w1 &&& (255 : Int32)).toInt * 35184372088832 % 2251799813685248
  rw [own_n1, own_u6_255, own_u7_255, own_u0_255, own_u1_255, own_u2_255, own_u3_255, own_u4_255]
  have r0 : 0 ≤ w0.toInt % 18446744073709551616 ∧ w0.toInt % 18446744073709551616 < 18446744073709551616 := by omega
  have r1 : 0 ≤ w1.toInt % 18446744073709551616 ∧ w1.toInt % 18446744073709551616 < 18446744073709551616 := by omega
  generalize w0.toInt % 18446744073709551616 = W0 at *
  generalize w1.toInt % 18446744073709551616 = W1 at *
  omega
theorem own_f2 (w0 w1 w2 w3 : Int64) : (own_e2 w1 w2).toInt = (own_bb w0 w1 w2 w3 12 &&& (255 : Int32)).toInt / 64 + (own_bb w0 w1 w2 w3 13 &&& (255 : Int32)).toInt * 4 % 2251799813685248 + (own_bb w0 w1 w2 w3 14 &&& (255 : Int32)).toInt * 1024 % 2251799813685248 + (own_bb w0 w1 w2 w3 15 &&& (255 : Int32)).toInt * 262144 % 2251799813685248 + (own_bb w0 w1 w2 w3 16 &&& (255 : Int32)).toInt * 67108864 % 2251799813685248 + (own_bb w0 w1 w2 w3 17 &&& (255 : Int32)).toInt * 17179869184 % 2251799813685248 + (own_bb w0 w1 w2 w3 18 &&& (255 : Int32)).toInt * 4398046511104 % 2251799813685248 + (own_bb w0 w1 w2 w3 19 &&& (255 : Int32)).toInt * 1125899906842624 % 2251799813685248 := by
  show (own_e2 w1 w2).toInt = (own_b4 w1 &&& (255 : Int32)).toInt / 64 + (own_b5 w1 &&& (255 : Int32)).toInt * 4 % 2251799813685248 + (own_b6 w1 &&& (255 : Int32)).toInt * 1024 % 2251799813685248 + (own_b7 w1 &&& (255 : Int32)).toInt * 262144 % 2251799813685248 + (own_b0 w2 &&& (255 : Int32)).toInt * 67108864 % 2251799813685248 + (own_b1 w2 &&& (255 : Int32)).toInt * 17179869184 % 2251799813685248 + (own_b2 w2 &&& (255 : Int32)).toInt * 4398046511104 % 2251799813685248 + (own_b3 w2 &&& (255 : Int32)).toInt * 1125899906842624 % 2251799813685248
  rw [own_n2, own_u4_255, own_u5_255, own_u6_255, own_u7_255, own_u0_255, own_u1_255, own_u2_255, own_u3_255]
  have r1 : 0 ≤ w1.toInt % 18446744073709551616 ∧ w1.toInt % 18446744073709551616 < 18446744073709551616 := by omega
  have r2 : 0 ≤ w2.toInt % 18446744073709551616 ∧ w2.toInt % 18446744073709551616 < 18446744073709551616 := by omega
  generalize w1.toInt % 18446744073709551616 = W1 at *
  generalize w2.toInt % 18446744073709551616 = W2 at *
  omega
theorem own_f3 (w0 w1 w2 w3 : Int64) : (own_e3 w2 w3).toInt = (own_bb w0 w1 w2 w3 19 &&& (255 : Int32)).toInt / 2 + (own_bb w0 w1 w2 w3 20 &&& (255 : Int32)).toInt * 128 % 2251799813685248 + (own_bb w0 w1 w2 w3 21 &&& (255 : Int32)).toInt * 32768 % 2251799813685248 + (own_bb w0 w1 w2 w3 22 &&& (255 : Int32)).toInt * 8388608 % 2251799813685248 + (own_bb w0 w1 w2 w3 23 &&& (255 : Int32)).toInt * 2147483648 % 2251799813685248 + (own_bb w0 w1 w2 w3 24 &&& (255 : Int32)).toInt * 549755813888 % 2251799813685248 + (own_bb w0 w1 w2 w3 25 &&& (255 : Int32)).toInt * 140737488355328 % 2251799813685248 := by
  show (own_e3 w2 w3).toInt = (own_b3 w2 &&& (255 : Int32)).toInt / 2 + (own_b4 w2 &&& (255 : Int32)).toInt * 128 % 2251799813685248 + (own_b5 w2 &&& (255 : Int32)).toInt * 32768 % 2251799813685248 + (own_b6 w2 &&& (255 : Int32)).toInt * 8388608 % 2251799813685248 + (own_b7 w2 &&& (255 : Int32)).toInt * 2147483648 % 2251799813685248 + (own_b0 w3 &&& (255 : Int32)).toInt * 549755813888 % 2251799813685248 + (own_b1 w3 &&& (255 : Int32)).toInt * 140737488355328 % 2251799813685248
  rw [own_n3, own_u3_255, own_u4_255, own_u5_255, own_u6_255, own_u7_255, own_u0_255, own_u1_255]
  have r2 : 0 ≤ w2.toInt % 18446744073709551616 ∧ w2.toInt % 18446744073709551616 < 18446744073709551616 := by omega
  have r3 : 0 ≤ w3.toInt % 18446744073709551616 ∧ w3.toInt % 18446744073709551616 < 18446744073709551616 := by omega
  generalize w2.toInt % 18446744073709551616 = W2 at *
  generalize w3.toInt % 18446744073709551616 = W3 at *
  omega
theorem own_f4 (w0 w1 w2 w3 : Int64) : (own_e4 w3).toInt = (own_bb w0 w1 w2 w3 25 &&& (255 : Int32)).toInt / 16 + (own_bb w0 w1 w2 w3 26 &&& (255 : Int32)).toInt * 16 % 2251799813685248 + (own_bb w0 w1 w2 w3 27 &&& (255 : Int32)).toInt * 4096 % 2251799813685248 + (own_bb w0 w1 w2 w3 28 &&& (255 : Int32)).toInt * 1048576 % 2251799813685248 + (own_bb w0 w1 w2 w3 29 &&& (255 : Int32)).toInt * 268435456 % 2251799813685248 + (own_bb w0 w1 w2 w3 30 &&& (255 : Int32)).toInt * 68719476736 % 2251799813685248 + (own_bb w0 w1 w2 w3 31 &&& (127 : Int32)).toInt * 17592186044416 % 2251799813685248 := by
  show (own_e4 w3).toInt = (own_b1 w3 &&& (255 : Int32)).toInt / 16 + (own_b2 w3 &&& (255 : Int32)).toInt * 16 % 2251799813685248 + (own_b3 w3 &&& (255 : Int32)).toInt * 4096 % 2251799813685248 + (own_b4 w3 &&& (255 : Int32)).toInt * 1048576 % 2251799813685248 + (own_b5 w3 &&& (255 : Int32)).toInt * 268435456 % 2251799813685248 + (own_b6 w3 &&& (255 : Int32)).toInt * 68719476736 % 2251799813685248 + (own_b7 w3 &&& (127 : Int32)).toInt * 17592186044416 % 2251799813685248
  rw [own_n4, own_u1_255, own_u2_255, own_u3_255, own_u4_255, own_u5_255, own_u6_255, own_u7_127]
  have r3 : 0 ≤ w3.toInt % 18446744073709551616 ∧ w3.toInt % 18446744073709551616 < 18446744073709551616 := by omega
  generalize w3.toInt % 18446744073709551616 = W3 at *
  omega
theorem own_resRef {r0 r1 r2 r3 r4 : Int64} {b : Addr} (h : ¬ (¬ r0 < (2251799813685229 : Int64) ∧ r1 = (2251799813685247 : Int64) ∧ r2 = (2251799813685247 : Int64) ∧ r3 = (2251799813685247 : Int64) ∧ r4 = (2251799813685247 : Int64))) : own_res r0 r1 r2 r3 r4 b = .ref b := by
  unfold own_res
  by_cases c0 : r0 < (2251799813685229 : Int64)
  · rw [if_pos c0]
  · rw [if_neg c0]
    by_cases c1 : r1 = (2251799813685247 : Int64)
    · rw [if_pos c1]
      by_cases c2 : r2 = (2251799813685247 : Int64)
      · rw [if_pos c2]
        by_cases c3 : r3 = (2251799813685247 : Int64)
        · rw [if_pos c3]
          by_cases c4 : r4 = (2251799813685247 : Int64)
          · exact absurd ⟨c0, c1, c2, c3, c4⟩ h
          · rw [if_neg c4]
        · rw [if_neg c3]
      · rw [if_neg c2]
    · rw [if_neg c1]
theorem own_resNull {r0 r1 r2 r3 r4 : Int64} {b : Addr} (h : ¬ r0 < (2251799813685229 : Int64) ∧ r1 = (2251799813685247 : Int64) ∧ r2 = (2251799813685247 : Int64) ∧ r3 = (2251799813685247 : Int64) ∧ r4 = (2251799813685247 : Int64)) : own_res r0 r1 r2 r3 r4 b = .null := by
  unfold own_res
  rw [if_neg h.1, if_pos h.2.1, if_pos h.2.2.1, if_pos h.2.2.2.1, if_pos h.2.2.2.2]
theorem own_big (w0 w1 w2 w3 : Int64) : (¬ own_e0 w0 < (2251799813685229 : Int64) ∧ own_e1 w0 w1 = (2251799813685247 : Int64) ∧ own_e2 w1 w2 = (2251799813685247 : Int64) ∧ own_e3 w2 w3 = (2251799813685247 : Int64) ∧ own_e4 w3 = (2251799813685247 : Int64)) ↔ ((w3 &&& (9223372036854775807 : Int64)) = (9223372036854775807 : Int64) ∧ w2 = (-1 : Int64) ∧ w1 = (-1 : Int64) ∧ w0 < (0 : Int64) ∧ ¬ w0 < (-19 : Int64)) := by
  have n0 := own_n0 w0
  have n1 := own_n1 w0 w1
  have n2 := own_n2 w1 w2
  have n3 := own_n3 w2 w3
  have n4 := own_n4 w3
  have m3 := c_maskL w3 9223372036854775807 63 (by decide) (by decide)
  have a0 := rng64 w0
  have a1 := rng64 w1
  have a2 := rng64 w2
  have a3 := rng64 w3
  simp only [← Int64.toInt_inj, Int64.lt_iff_toInt_lt]
  rw [show (2251799813685229 : Int64).toInt = 2251799813685229 from by decide, show (2251799813685247 : Int64).toInt = 2251799813685247 from by decide, show (9223372036854775807 : Int64).toInt = 9223372036854775807 from by decide, show (-1 : Int64).toInt = -1 from by decide, show (0 : Int64).toInt = 0 from by decide, show (-19 : Int64).toInt = -19 from by decide]
  constructor
  · rintro ⟨h0, h1, h2, h3, h4⟩
    refine ⟨?_, ?_, ?_, ?_, ?_⟩ <;> omega
  · rintro ⟨h0, h1, h2, h3, h4⟩
    refine ⟨?_, ?_, ?_, ?_, ?_⟩ <;> omega
theorem own_of (p : Int32) : ¬ (p &&& (7 : Int32)) < 0 ∧ (p &&& (7 : Int32)).toNatClampNeg ≤ 7 := by
  have hm := c_mask p 7 3 (by decide) (by decide)
  have z : (0 : Int32).toInt = 0 := by decide
  have q : ¬ (p &&& (7 : Int32)) < 0 := by
    rw [Int32.lt_iff_toInt_lt]
    omega
  have d := nat_of q
  exact ⟨q, by omega⟩
theorem own_hb (v : List Value) (n : Nat) (w0 w1 w2 w3 : Int64) (d : Value) (hl : v.length = 40) (hn : n + 32 ≤ 40) : ∀ j, j < 32 → (own_put (own_put (own_put (own_put v n w0) (n + 8) w1) (n + 16) w2) (n + 24) w3).getD (n + j) d = .int (own_bb w0 w1 w2 w3 j) := by
  have l1 : (own_put v n w0).length = 40 := by rw [own_putLen, hl]
  have l2 : (own_put (own_put v n w0) (n + 8) w1).length = 40 := by rw [own_putLen, l1]
  have l3 : (own_put (own_put (own_put v n w0) (n + 8) w1) (n + 16) w2).length = 40 := by rw [own_putLen, l2]
  have i0 := own_putIn v n w0 d (by omega)
  have i1 := own_putIn (own_put v n w0) (n + 8) w1 d (by omega)
  have i2 := own_putIn (own_put (own_put v n w0) (n + 8) w1) (n + 16) w2 d (by omega)
  have i3 := own_putIn (own_put (own_put (own_put v n w0) (n + 8) w1) (n + 16) w2) (n + 24) w3 d (by omega)
  intro j hj
  have : j = 0 ∨ j = 1 ∨ j = 2 ∨ j = 3 ∨ j = 4 ∨ j = 5 ∨ j = 6 ∨ j = 7 ∨ j = 8 ∨ j = 9 ∨ j = 10 ∨ j = 11 ∨ j = 12 ∨ j = 13 ∨ j = 14 ∨ j = 15 ∨ j = 16 ∨ j = 17 ∨ j = 18 ∨ j = 19 ∨ j = 20 ∨ j = 21 ∨ j = 22 ∨ j = 23 ∨ j = 24 ∨ j = 25 ∨ j = 26 ∨ j = 27 ∨ j = 28 ∨ j = 29 ∨ j = 30 ∨ j = 31 := by omega
  rcases this with rfl | rfl | rfl | rfl | rfl | rfl | rfl | rfl | rfl | rfl | rfl | rfl | rfl | rfl | rfl | rfl | rfl | rfl | rfl | rfl | rfl | rfl | rfl | rfl | rfl | rfl | rfl | rfl | rfl | rfl | rfl | rfl
  · rw [own_putOut _ _ _ _ _ (by omega), own_putOut _ _ _ _ _ (by omega), own_putOut _ _ _ _ _ (by omega)]; exact i0.1
  · rw [own_putOut _ _ _ _ _ (by omega), own_putOut _ _ _ _ _ (by omega), own_putOut _ _ _ _ _ (by omega)]; exact i0.2.1
  · rw [own_putOut _ _ _ _ _ (by omega), own_putOut _ _ _ _ _ (by omega), own_putOut _ _ _ _ _ (by omega)]; exact i0.2.2.1
  · rw [own_putOut _ _ _ _ _ (by omega), own_putOut _ _ _ _ _ (by omega), own_putOut _ _ _ _ _ (by omega)]; exact i0.2.2.2.1
  · rw [own_putOut _ _ _ _ _ (by omega), own_putOut _ _ _ _ _ (by omega), own_putOut _ _ _ _ _ (by omega)]; exact i0.2.2.2.2.1
  · rw [own_putOut _ _ _ _ _ (by omega), own_putOut _ _ _ _ _ (by omega), own_putOut _ _ _ _ _ (by omega)]; exact i0.2.2.2.2.2.1
  · rw [own_putOut _ _ _ _ _ (by omega), own_putOut _ _ _ _ _ (by omega), own_putOut _ _ _ _ _ (by omega)]; exact i0.2.2.2.2.2.2.1
  · rw [own_putOut _ _ _ _ _ (by omega), own_putOut _ _ _ _ _ (by omega), own_putOut _ _ _ _ _ (by omega)]; exact i0.2.2.2.2.2.2.2
  · rw [own_putOut _ _ _ _ _ (by omega), own_putOut _ _ _ _ _ (by omega)]; exact i1.1
  · rw [own_putOut _ _ _ _ _ (by omega), own_putOut _ _ _ _ _ (by omega)]; exact i1.2.1
  · rw [own_putOut _ _ _ _ _ (by omega), own_putOut _ _ _ _ _ (by omega)]; exact i1.2.2.1
  · rw [own_putOut _ _ _ _ _ (by omega), own_putOut _ _ _ _ _ (by omega)]; exact i1.2.2.2.1
  · rw [own_putOut _ _ _ _ _ (by omega), own_putOut _ _ _ _ _ (by omega)]; exact i1.2.2.2.2.1
  · rw [own_putOut _ _ _ _ _ (by omega), own_putOut _ _ _ _ _ (by omega)]; exact i1.2.2.2.2.2.1
  · rw [own_putOut _ _ _ _ _ (by omega), own_putOut _ _ _ _ _ (by omega)]; exact i1.2.2.2.2.2.2.1
  · rw [own_putOut _ _ _ _ _ (by omega), own_putOut _ _ _ _ _ (by omega)]; exact i1.2.2.2.2.2.2.2
  · rw [own_putOut _ _ _ _ _ (by omega)]; exact i2.1
  · rw [own_putOut _ _ _ _ _ (by omega)]; exact i2.2.1
  · rw [own_putOut _ _ _ _ _ (by omega)]; exact i2.2.2.1
  · rw [own_putOut _ _ _ _ _ (by omega)]; exact i2.2.2.2.1
  · rw [own_putOut _ _ _ _ _ (by omega)]; exact i2.2.2.2.2.1
  · rw [own_putOut _ _ _ _ _ (by omega)]; exact i2.2.2.2.2.2.1
  · rw [own_putOut _ _ _ _ _ (by omega)]; exact i2.2.2.2.2.2.2.1
  · rw [own_putOut _ _ _ _ _ (by omega)]; exact i2.2.2.2.2.2.2.2
  · exact i3.1
  · exact i3.2.1
  · exact i3.2.2.1
  · exact i3.2.2.2.1
  · exact i3.2.2.2.2.1
  · exact i3.2.2.2.2.2.1
  · exact i3.2.2.2.2.2.2.1
  · exact i3.2.2.2.2.2.2.2
theorem own_pd0 : parseMethodDescriptor "([BIJ)V" = some ⟨[(.array .byte), .int, .long], none⟩ := by decide +kernel
theorem own_pd1 : parseMethodDescriptor "([BI)[J" = some ⟨[(.array .byte), .int], some (.array .long)⟩ := by decide +kernel
theorem own_rm0_ef (m : MethodId) (q0 : Int64) (q1 : Int64) (q2 : Int64) (q3 : Int64) (q4 : Int64) (p5 : Int32) : entryFrame m #[(.long q0), (.long q1), (.long q2), (.long q3), (.long q4), (.int p5)] maxLocals = mkF m 0 #[.val (.long q0), .second, .val (.long q1), .second, .val (.long q2), .second, .val (.long q3), .second, .val (.long q4), .second, .val (.int p5), .unset, .unset, .unset, .unset, .unset, .unset, .unset, .unset, .unset, .unset, .unset, .unset, .unset, .unset, .unset, .unset, .unset, .unset] [] := by first | (simp [entryFrame, mkF, argsToLocals, Value.category, maxLocals]; done) | rfl
def own_rm0_Q (Z : State) (q0 : Int64) (q1 : Int64) (q2 : Int64) (q3 : Int64) (q4 : Int64) (p5 : Int32) (h0 : Heap) (n0 : Nat) (v : Option Value) (h : Heap) (L : List Loc) : Prop := v = some (.int 1) ∧ Fr n0 L
set_option maxRecDepth 65536 in
set_option maxHeartbeats 40000000 in
theorem own_rm0 (l : Launch) (Z : State) (a0 : Array Value) (hw : ∀ d ∈ tables_1, d.before a0 Z = true) (ws : List Jvm.Cond) (q0 : Int64) (q1 : Int64) (q2 : Int64) (q3 : Int64) (q4 : Int64) (p5 : Int32) (h0 : Heap) (n0 : Nat) (Z0 : n0 ≤ h0.size) :
    MetFree l x (head1 (Jvm.Cond.code x code maxLocals ret :: ws) room_1) (fun as_ U => as_ = #[(.long q0), (.long q1), (.long q2), (.long q3), (.long q4), (.int p5)] ∧ Z.Warmed39 U.vm ∧ U.heap = h0) (fun _ _ _ _ _ => True) (fun _ U_ o_ V_ => ∃ v_ L_, o_ = .returned v_ ∧ own_rm0_Q Z q0 q1 q2 q3 q4 p5 h0 n0 v_ V_.heap L_ ∧ FrameEnd U_ o_ V_ L_ room_1.cells room_1.slots) := by
  refine MetFree.of_bodySF (plainFor_of_name own_pn0) hisR ?_
  intro p e s m args below meth c s₁ Bd hml0 hP hK
  obtain ⟨rfl, hZ, hh⟩ := hP
  have hx := Bd.exec
  have hby := Bd.bytes
  have hml : c.maxLocals = 29 := hml0
  have hown : s.vm.findClass "io/github/keyhold/core/Ed25519FieldFromBytesPinLaw" = some m.cls := findClass_of_methodNamed Bd.named
  have hnm := (name_of_methodNamed Bd.named Bd.method).1
  have X0 : Stand p l e room_1 s m #[(.long q0), (.long q1), (.long q2), (.long q3), (.long q4), (.int p5)] below meth c s₁ [] 0 0 := Stand.of_body Bd
  have e0 : s₁.heap = h0 := by rw [← hh, Bd.state]; rfl
  have N0 := Fr.nil n0
  refine own_begin (own_rm0_ef m q0 q1 q2 q3 q4 p5) ?_
  show Ends p.tables e below (s₁.setTop (mkF m 0 #[.val (.long q0), .second, .val (.long q1), .second, .val (.long q2), .second, .val (.long q3), .second, .val (.long q4), .second, .val (.int p5), .unset, .unset, .unset, .unset, .unset, .unset, .unset, .unset, .unset, .unset, .unset, .unset, .unset, .unset, .unset, .unset, .unset, .unset] [])) _
  refine s_iload (pc' := 2) X0.here hx (hb hby at_0) rfl rfl ?_
  refine s_bipush (pc' := 4) X0.here hx (v := (7 : Int32)) (hb hby at_2) rfl rfl ?_
  refine s_iand (pc' := 5) X0.here hx (hb hby at_4) rfl ?_
  obtain ⟨of, hof⟩ : ∃ z : Int32, z = (p5 &&& (7 : Int32)) := ⟨_, rfl⟩
  rw [← hof]
  have of0 : ¬ of < 0 := hof ▸ (own_of p5).1
  have of7 : of.toNatClampNeg ≤ 7 := hof ▸ (own_of p5).2
  refine s_istore (pc' := 7) X0.here hx (l' := #[.val (.long q0), .second, .val (.long q1), .second, .val (.long q2), .second, .val (.long q3), .second, .val (.long q4), .second, .val (.int p5), .val (.int of), .unset, .unset, .unset, .unset, .unset, .unset, .unset, .unset, .unset, .unset, .unset, .unset, .unset, .unset, .unset, .unset, .unset]) (hb hby at_5) rfl rfl ?_
  refine own_join (α := Int64 × Int64 × Int64 × Int64 × Int32 × Int32) (fun ⟨w0, w1, w2, w3, ne, cc⟩ => s₁.setTop (mkF m 160 #[.val (.long w0), .second, .val (.long w1), .second, .val (.long w2), .second, .val (.long w3), .second, .val (.long q4), .second, .val (.int p5), .val (.int of), .val (.int ne), .val (.int cc), .unset, .unset, .unset, .unset, .unset, .unset, .unset, .unset, .unset, .unset, .unset, .unset, .unset, .unset, .unset] [])) (fun ⟨w0, w1, w2, w3, ne, cc⟩ => True) (fun key => ?_) ?_
  · refine s_iload (pc' := 9) X0.here hx (hb hby at_7) rfl rfl ?_
    refine s_iconst (pc' := 10) X0.here hx (v := (3 : Int32)) (hb hby at_9) rfl rfl ?_
    refine s_iushr (pc' := 11) X0.here hx (hb hby at_10) rfl ?_
    refine s_iconst (pc' := 12) X0.here hx (v := (1 : Int32)) (hb hby at_11) rfl rfl ?_
    refine s_iand (pc' := 13) X0.here hx (hb hby at_12) rfl ?_
    by_cases hd1 : (((p5.toUInt32 >>> ((3 : Int32) &&& 31).toUInt32).toInt32) &&& (1 : Int32)) = (0 : Int32)
    · refine s_ifYes (pc' := 20) X0.here hx (hb hby at_13) ((if0 _ _).trans (teq hd1).1) (by decide) (by decide) ?_
      refine s_iconst (pc' := 21) X0.here hx (v := (0 : Int32)) (hb hby at_20) rfl rfl ?_
      refine s_istore (pc' := 23) X0.here hx (l' := #[.val (.long q0), .second, .val (.long q1), .second, .val (.long q2), .second, .val (.long q3), .second, .val (.long q4), .second, .val (.int p5), .val (.int of), .val (.int (0 : Int32)), .unset, .unset, .unset, .unset, .unset, .unset, .unset, .unset, .unset, .unset, .unset, .unset, .unset, .unset, .unset, .unset]) (hb hby at_21) rfl rfl ?_
      refine s_iload (pc' := 25) X0.here hx (hb hby at_23) rfl rfl ?_
      refine s_iconst (pc' := 26) X0.here hx (v := (4 : Int32)) (hb hby at_25) rfl rfl ?_
      refine s_iushr (pc' := 27) X0.here hx (hb hby at_26) rfl ?_
      refine s_sipush (pc' := 30) X0.here hx (v := (511 : Int32)) (hb hby at_27) rfl rfl ?_
      refine s_iand (pc' := 31) X0.here hx (hb hby at_30) rfl ?_
      refine s_istore (pc' := 33) X0.here hx (l' := #[.val (.long q0), .second, .val (.long q1), .second, .val (.long q2), .second, .val (.long q3), .second, .val (.long q4), .second, .val (.int p5), .val (.int of), .val (.int (0 : Int32)), .val (.int (((p5.toUInt32 >>> ((4 : Int32) &&& 31).toUInt32).toInt32) &&& (511 : Int32))), .unset, .unset, .unset, .unset, .unset, .unset, .unset, .unset, .unset, .unset, .unset, .unset, .unset, .unset, .unset]) (hb hby at_31) rfl rfl ?_
      refine s_iload (pc' := 35) X0.here hx (hb hby at_33) rfl rfl ?_
      have hk2 : (0 : Int32) = (0 : Int32) := by decide
      refine s_ifYes (pc' := 160) X0.here hx (hb hby at_35) ((if0 _ _).trans (teq hk2).1) (by decide) (by decide) ?_
      exact key (q0, q1, q2, q3, (0 : Int32), (((p5.toUInt32 >>> ((4 : Int32) &&& 31).toUInt32).toInt32) &&& (511 : Int32))) trivial
    · refine s_ifNo (pc' := 16) X0.here hx (hb hby at_13) ((if0 _ _).trans (feq hd1).1) rfl ?_
      refine s_iconst (pc' := 17) X0.here hx (v := (1 : Int32)) (hb hby at_16) rfl rfl ?_
      refine s_goto (pc' := 21) X0.here hx (hb hby at_17) (by decide) (by decide) ?_
      refine s_istore (pc' := 23) X0.here hx (l' := #[.val (.long q0), .second, .val (.long q1), .second, .val (.long q2), .second, .val (.long q3), .second, .val (.long q4), .second, .val (.int p5), .val (.int of), .val (.int (1 : Int32)), .unset, .unset, .unset, .unset, .unset, .unset, .unset, .unset, .unset, .unset, .unset, .unset, .unset, .unset, .unset, .unset]) (hb hby at_21) rfl rfl ?_
      refine s_iload (pc' := 25) X0.here hx (hb hby at_23) rfl rfl ?_
      refine s_iconst (pc' := 26) X0.here hx (v := (4 : Int32)) (hb hby at_25) rfl rfl ?_
      refine s_iushr (pc' := 27) X0.here hx (hb hby at_26) rfl ?_
      refine s_sipush (pc' := 30) X0.here hx (v := (511 : Int32)) (hb hby at_27) rfl rfl ?_
      refine s_iand (pc' := 31) X0.here hx (hb hby at_30) rfl ?_
      refine s_istore (pc' := 33) X0.here hx (l' := #[.val (.long q0), .second, .val (.long q1), .second, .val (.long q2), .second, .val (.long q3), .second, .val (.long q4), .second, .val (.int p5), .val (.int of), .val (.int (1 : Int32)), .val (.int (((p5.toUInt32 >>> ((4 : Int32) &&& 31).toUInt32).toInt32) &&& (511 : Int32))), .unset, .unset, .unset, .unset, .unset, .unset, .unset, .unset, .unset, .unset, .unset, .unset, .unset, .unset, .unset]) (hb hby at_31) rfl rfl ?_
      refine s_iload (pc' := 35) X0.here hx (hb hby at_33) rfl rfl ?_
      have hk3 : ¬ ((1 : Int32) = (0 : Int32)) := by decide
      refine s_ifNo (pc' := 38) X0.here hx (hb hby at_35) ((if0 _ _).trans (feq hk3).1) rfl ?_
      refine s_lloadN (pc' := 39) X0.here hx (hb hby at_38) rfl rfl ?_
      refine s_ldcJ (pc' := 42) X0 hx hZ hown (hw _ (List.mem_of_getElem? (i := 14) rfl)) (hb hby at_39) rfl ?_
      refine s_lor (pc' := 43) X0.here hx (hb hby at_42) rfl ?_
      refine s_lstoreN (pc' := 44) X0.here hx (l' := #[.val (.long (q0 ||| (-32 : Int64))), .second, .val (.long q1), .second, .val (.long q2), .second, .val (.long q3), .second, .val (.long q4), .second, .val (.int p5), .val (.int of), .val (.int (1 : Int32)), .val (.int (((p5.toUInt32 >>> ((4 : Int32) &&& 31).toUInt32).toInt32) &&& (511 : Int32))), .unset, .unset, .unset, .unset, .unset, .unset, .unset, .unset, .unset, .unset, .unset, .unset, .unset, .unset, .unset]) (hb hby at_43) rfl rfl ?_
      refine s_ldcJ (pc' := 47) X0 hx hZ hown (hw _ (List.mem_of_getElem? (i := 15) rfl)) (hb hby at_44) rfl ?_
      refine s_lstoreN (pc' := 48) X0.here hx (l' := #[.val (.long (q0 ||| (-32 : Int64))), .second, .val (.long (-1 : Int64)), .second, .val (.long q2), .second, .val (.long q3), .second, .val (.long q4), .second, .val (.int p5), .val (.int of), .val (.int (1 : Int32)), .val (.int (((p5.toUInt32 >>> ((4 : Int32) &&& 31).toUInt32).toInt32) &&& (511 : Int32))), .unset, .unset, .unset, .unset, .unset, .unset, .unset, .unset, .unset, .unset, .unset, .unset, .unset, .unset, .unset]) (hb hby at_47) rfl rfl ?_
      refine s_ldcJ (pc' := 51) X0 hx hZ hown (hw _ (List.mem_of_getElem? (i := 15) rfl)) (hb hby at_48) rfl ?_
      refine s_lstore (pc' := 53) X0.here hx (l' := #[.val (.long (q0 ||| (-32 : Int64))), .second, .val (.long (-1 : Int64)), .second, .val (.long (-1 : Int64)), .second, .val (.long q3), .second, .val (.long q4), .second, .val (.int p5), .val (.int of), .val (.int (1 : Int32)), .val (.int (((p5.toUInt32 >>> ((4 : Int32) &&& 31).toUInt32).toInt32) &&& (511 : Int32))), .unset, .unset, .unset, .unset, .unset, .unset, .unset, .unset, .unset, .unset, .unset, .unset, .unset, .unset, .unset]) (hb hby at_51) rfl rfl ?_
      refine s_lload (pc' := 55) X0.here hx (hb hby at_53) rfl rfl ?_
      refine s_ldcJ (pc' := 58) X0 hx hZ hown (hw _ (List.mem_of_getElem? (i := 13) rfl)) (hb hby at_55) rfl ?_
      refine s_lor (pc' := 59) X0.here hx (hb hby at_58) rfl ?_
      refine s_lstore (pc' := 61) X0.here hx (l' := #[.val (.long (q0 ||| (-32 : Int64))), .second, .val (.long (-1 : Int64)), .second, .val (.long (-1 : Int64)), .second, .val (.long (q3 ||| (9223372036854775807 : Int64))), .second, .val (.long q4), .second, .val (.int p5), .val (.int of), .val (.int (1 : Int32)), .val (.int (((p5.toUInt32 >>> ((4 : Int32) &&& 31).toUInt32).toInt32) &&& (511 : Int32))), .unset, .unset, .unset, .unset, .unset, .unset, .unset, .unset, .unset, .unset, .unset, .unset, .unset, .unset, .unset]) (hb hby at_59) rfl rfl ?_
      refine s_iload (pc' := 63) X0.here hx (hb hby at_61) rfl rfl ?_
      refine s_bipush (pc' := 65) X0.here hx (v := (64 : Int32)) (hb hby at_63) rfl rfl ?_
      by_cases hd4 : (((p5.toUInt32 >>> ((4 : Int32) &&& 31).toUInt32).toInt32) &&& (511 : Int32)) < (64 : Int32)
      · refine s_icmpNo (pc' := 68) X0.here hx (hb hby at_65) (tlt hd4).2.1 rfl ?_
        refine s_lloadN (pc' := 69) X0.here hx (hb hby at_68) rfl rfl ?_
        refine s_lconst (pc' := 70) X0.here hx (v := (1 : Int64)) (hb hby at_69) rfl rfl ?_
        refine s_iload (pc' := 72) X0.here hx (hb hby at_70) rfl rfl ?_
        refine s_lshl (pc' := 73) X0.here hx (hb hby at_72) rfl ?_
        refine s_ldcJ (pc' := 76) X0 hx hZ hown (hw _ (List.mem_of_getElem? (i := 15) rfl)) (hb hby at_73) rfl ?_
        refine s_lxor (pc' := 77) X0.here hx (hb hby at_76) rfl ?_
        refine s_land (pc' := 78) X0.here hx (hb hby at_77) rfl ?_
        refine s_lstoreN (pc' := 79) X0.here hx (l' := #[.val (.long ((q0 ||| (-32 : Int64)) &&& (((1 : Int64) <<< ((((p5.toUInt32 >>> ((4 : Int32) &&& 31).toUInt32).toInt32) &&& (511 : Int32)) &&& 0x3f).toInt64) ^^^ (-1 : Int64)))), .second, .val (.long (-1 : Int64)), .second, .val (.long (-1 : Int64)), .second, .val (.long (q3 ||| (9223372036854775807 : Int64))), .second, .val (.long q4), .second, .val (.int p5), .val (.int of), .val (.int (1 : Int32)), .val (.int (((p5.toUInt32 >>> ((4 : Int32) &&& 31).toUInt32).toInt32) &&& (511 : Int32))), .unset, .unset, .unset, .unset, .unset, .unset, .unset, .unset, .unset, .unset, .unset, .unset, .unset, .unset, .unset]) (hb hby at_78) rfl rfl ?_
        refine s_goto (pc' := 160) X0.here hx (hb hby at_79) (by decide) (by decide) ?_
        exact key (((q0 ||| (-32 : Int64)) &&& (((1 : Int64) <<< ((((p5.toUInt32 >>> ((4 : Int32) &&& 31).toUInt32).toInt32) &&& (511 : Int32)) &&& 0x3f).toInt64) ^^^ (-1 : Int64))), (-1 : Int64), (-1 : Int64), (q3 ||| (9223372036854775807 : Int64)), (1 : Int32), (((p5.toUInt32 >>> ((4 : Int32) &&& 31).toUInt32).toInt32) &&& (511 : Int32))) trivial
      · refine s_icmpYes (pc' := 82) X0.here hx (hb hby at_65) (flt hd4).2.1 (by decide) (by decide) ?_
        refine s_iload (pc' := 84) X0.here hx (hb hby at_82) rfl rfl ?_
        refine s_sipush (pc' := 87) X0.here hx (v := (128 : Int32)) (hb hby at_84) rfl rfl ?_
        by_cases hd5 : (((p5.toUInt32 >>> ((4 : Int32) &&& 31).toUInt32).toInt32) &&& (511 : Int32)) < (128 : Int32)
        · refine s_icmpNo (pc' := 90) X0.here hx (hb hby at_87) (tlt hd5).2.1 rfl ?_
          refine s_lloadN (pc' := 91) X0.here hx (hb hby at_90) rfl rfl ?_
          refine s_lconst (pc' := 92) X0.here hx (v := (1 : Int64)) (hb hby at_91) rfl rfl ?_
          refine s_iload (pc' := 94) X0.here hx (hb hby at_92) rfl rfl ?_
          refine s_bipush (pc' := 96) X0.here hx (v := (64 : Int32)) (hb hby at_94) rfl rfl ?_
          refine s_isub (pc' := 97) X0.here hx (hb hby at_96) rfl ?_
          refine s_lshl (pc' := 98) X0.here hx (hb hby at_97) rfl ?_
          refine s_ldcJ (pc' := 101) X0 hx hZ hown (hw _ (List.mem_of_getElem? (i := 15) rfl)) (hb hby at_98) rfl ?_
          refine s_lxor (pc' := 102) X0.here hx (hb hby at_101) rfl ?_
          refine s_land (pc' := 103) X0.here hx (hb hby at_102) rfl ?_
          refine s_lstoreN (pc' := 104) X0.here hx (l' := #[.val (.long (q0 ||| (-32 : Int64))), .second, .val (.long ((-1 : Int64) &&& (((1 : Int64) <<< (((((p5.toUInt32 >>> ((4 : Int32) &&& 31).toUInt32).toInt32) &&& (511 : Int32)) - (64 : Int32)) &&& 0x3f).toInt64) ^^^ (-1 : Int64)))), .second, .val (.long (-1 : Int64)), .second, .val (.long (q3 ||| (9223372036854775807 : Int64))), .second, .val (.long q4), .second, .val (.int p5), .val (.int of), .val (.int (1 : Int32)), .val (.int (((p5.toUInt32 >>> ((4 : Int32) &&& 31).toUInt32).toInt32) &&& (511 : Int32))), .unset, .unset, .unset, .unset, .unset, .unset, .unset, .unset, .unset, .unset, .unset, .unset, .unset, .unset, .unset]) (hb hby at_103) rfl rfl ?_
          refine s_goto (pc' := 160) X0.here hx (hb hby at_104) (by decide) (by decide) ?_
          exact key ((q0 ||| (-32 : Int64)), ((-1 : Int64) &&& (((1 : Int64) <<< (((((p5.toUInt32 >>> ((4 : Int32) &&& 31).toUInt32).toInt32) &&& (511 : Int32)) - (64 : Int32)) &&& 0x3f).toInt64) ^^^ (-1 : Int64))), (-1 : Int64), (q3 ||| (9223372036854775807 : Int64)), (1 : Int32), (((p5.toUInt32 >>> ((4 : Int32) &&& 31).toUInt32).toInt32) &&& (511 : Int32))) trivial
        · refine s_icmpYes (pc' := 107) X0.here hx (hb hby at_87) (flt hd5).2.1 (by decide) (by decide) ?_
          refine s_iload (pc' := 109) X0.here hx (hb hby at_107) rfl rfl ?_
          refine s_sipush (pc' := 112) X0.here hx (v := (192 : Int32)) (hb hby at_109) rfl rfl ?_
          by_cases hd6 : (((p5.toUInt32 >>> ((4 : Int32) &&& 31).toUInt32).toInt32) &&& (511 : Int32)) < (192 : Int32)
          · refine s_icmpNo (pc' := 115) X0.here hx (hb hby at_112) (tlt hd6).2.1 rfl ?_
            refine s_lload (pc' := 117) X0.here hx (hb hby at_115) rfl rfl ?_
            refine s_lconst (pc' := 118) X0.here hx (v := (1 : Int64)) (hb hby at_117) rfl rfl ?_
            refine s_iload (pc' := 120) X0.here hx (hb hby at_118) rfl rfl ?_
            refine s_sipush (pc' := 123) X0.here hx (v := (128 : Int32)) (hb hby at_120) rfl rfl ?_
            refine s_isub (pc' := 124) X0.here hx (hb hby at_123) rfl ?_
            refine s_lshl (pc' := 125) X0.here hx (hb hby at_124) rfl ?_
            refine s_ldcJ (pc' := 128) X0 hx hZ hown (hw _ (List.mem_of_getElem? (i := 15) rfl)) (hb hby at_125) rfl ?_
            refine s_lxor (pc' := 129) X0.here hx (hb hby at_128) rfl ?_
            refine s_land (pc' := 130) X0.here hx (hb hby at_129) rfl ?_
            refine s_lstore (pc' := 132) X0.here hx (l' := #[.val (.long (q0 ||| (-32 : Int64))), .second, .val (.long (-1 : Int64)), .second, .val (.long ((-1 : Int64) &&& (((1 : Int64) <<< (((((p5.toUInt32 >>> ((4 : Int32) &&& 31).toUInt32).toInt32) &&& (511 : Int32)) - (128 : Int32)) &&& 0x3f).toInt64) ^^^ (-1 : Int64)))), .second, .val (.long (q3 ||| (9223372036854775807 : Int64))), .second, .val (.long q4), .second, .val (.int p5), .val (.int of), .val (.int (1 : Int32)), .val (.int (((p5.toUInt32 >>> ((4 : Int32) &&& 31).toUInt32).toInt32) &&& (511 : Int32))), .unset, .unset, .unset, .unset, .unset, .unset, .unset, .unset, .unset, .unset, .unset, .unset, .unset, .unset, .unset]) (hb hby at_130) rfl rfl ?_
            refine s_goto (pc' := 160) X0.here hx (hb hby at_132) (by decide) (by decide) ?_
            exact key ((q0 ||| (-32 : Int64)), (-1 : Int64), ((-1 : Int64) &&& (((1 : Int64) <<< (((((p5.toUInt32 >>> ((4 : Int32) &&& 31).toUInt32).toInt32) &&& (511 : Int32)) - (128 : Int32)) &&& 0x3f).toInt64) ^^^ (-1 : Int64))), (q3 ||| (9223372036854775807 : Int64)), (1 : Int32), (((p5.toUInt32 >>> ((4 : Int32) &&& 31).toUInt32).toInt32) &&& (511 : Int32))) trivial
          · refine s_icmpYes (pc' := 135) X0.here hx (hb hby at_112) (flt hd6).2.1 (by decide) (by decide) ?_
            refine s_iload (pc' := 137) X0.here hx (hb hby at_135) rfl rfl ?_
            refine s_sipush (pc' := 140) X0.here hx (v := (256 : Int32)) (hb hby at_137) rfl rfl ?_
            by_cases hd7 : (((p5.toUInt32 >>> ((4 : Int32) &&& 31).toUInt32).toInt32) &&& (511 : Int32)) < (256 : Int32)
            · refine s_icmpNo (pc' := 143) X0.here hx (hb hby at_140) (tlt hd7).2.1 rfl ?_
              refine s_lload (pc' := 145) X0.here hx (hb hby at_143) rfl rfl ?_
              refine s_lconst (pc' := 146) X0.here hx (v := (1 : Int64)) (hb hby at_145) rfl rfl ?_
              refine s_iload (pc' := 148) X0.here hx (hb hby at_146) rfl rfl ?_
              refine s_sipush (pc' := 151) X0.here hx (v := (192 : Int32)) (hb hby at_148) rfl rfl ?_
              refine s_isub (pc' := 152) X0.here hx (hb hby at_151) rfl ?_
              refine s_lshl (pc' := 153) X0.here hx (hb hby at_152) rfl ?_
              refine s_ldcJ (pc' := 156) X0 hx hZ hown (hw _ (List.mem_of_getElem? (i := 15) rfl)) (hb hby at_153) rfl ?_
              refine s_lxor (pc' := 157) X0.here hx (hb hby at_156) rfl ?_
              refine s_land (pc' := 158) X0.here hx (hb hby at_157) rfl ?_
              refine s_lstore (pc' := 160) X0.here hx (l' := #[.val (.long (q0 ||| (-32 : Int64))), .second, .val (.long (-1 : Int64)), .second, .val (.long (-1 : Int64)), .second, .val (.long ((q3 ||| (9223372036854775807 : Int64)) &&& (((1 : Int64) <<< (((((p5.toUInt32 >>> ((4 : Int32) &&& 31).toUInt32).toInt32) &&& (511 : Int32)) - (192 : Int32)) &&& 0x3f).toInt64) ^^^ (-1 : Int64)))), .second, .val (.long q4), .second, .val (.int p5), .val (.int of), .val (.int (1 : Int32)), .val (.int (((p5.toUInt32 >>> ((4 : Int32) &&& 31).toUInt32).toInt32) &&& (511 : Int32))), .unset, .unset, .unset, .unset, .unset, .unset, .unset, .unset, .unset, .unset, .unset, .unset, .unset, .unset, .unset]) (hb hby at_158) rfl rfl ?_
              exact key ((q0 ||| (-32 : Int64)), (-1 : Int64), (-1 : Int64), ((q3 ||| (9223372036854775807 : Int64)) &&& (((1 : Int64) <<< (((((p5.toUInt32 >>> ((4 : Int32) &&& 31).toUInt32).toInt32) &&& (511 : Int32)) - (192 : Int32)) &&& 0x3f).toInt64) ^^^ (-1 : Int64))), (1 : Int32), (((p5.toUInt32 >>> ((4 : Int32) &&& 31).toUInt32).toInt32) &&& (511 : Int32))) trivial
            · refine s_icmpYes (pc' := 160) X0.here hx (hb hby at_140) (flt hd7).2.1 (by decide) (by decide) ?_
              exact key ((q0 ||| (-32 : Int64)), (-1 : Int64), (-1 : Int64), (q3 ||| (9223372036854775807 : Int64)), (1 : Int32), (((p5.toUInt32 >>> ((4 : Int32) &&& 31).toUInt32).toInt32) &&& (511 : Int32))) trivial
  · rintro ⟨w0, w1, w2, w3, ne, cc⟩ hT
    try dsimp only at hT
    try dsimp only
    show Ends p.tables e below (s₁.setTop (mkF m 160 #[.val (.long w0), .second, .val (.long w1), .second, .val (.long w2), .second, .val (.long w3), .second, .val (.long q4), .second, .val (.int p5), .val (.int of), .val (.int ne), .val (.int cc), .unset, .unset, .unset, .unset, .unset, .unset, .unset, .unset, .unset, .unset, .unset, .unset, .unset, .unset, .unset] [])) _
    refine s_bipush (pc' := 162) X0.here hx (v := (40 : Int32)) (hb hby at_160) rfl rfl ?_
    refine s_newP (pc' := 164) (cap := 40) X0 hx hZ (hw _ (List.mem_of_getElem? (i := 0) rfl)) e0 (hb hby at_162) (by decide) (by decide) (by decide) (by decide) (by decide) rfl fun T8 hp8 X8 e8 ka8 E8 ba gq8 A8 => ?_
    have g_ba : n0 ≤ ba := Nat.le_trans Z0 (Nat.le_of_eq gq8.symm)
    have Z9 : n0 ≤ hp8.size := Nat.le_trans Z0 E8.1
    have V10 : Arv Z hp8 ba ka8 .byte (40 : Int32) [(.int (0 : Int32)), (.int (0 : Int32)), (.int (0 : Int32)), (.int (0 : Int32)), (.int (0 : Int32)), (.int (0 : Int32)), (.int (0 : Int32)), (.int (0 : Int32)), (.int (0 : Int32)), (.int (0 : Int32)), (.int (0 : Int32)), (.int (0 : Int32)), (.int (0 : Int32)), (.int (0 : Int32)), (.int (0 : Int32)), (.int (0 : Int32)), (.int (0 : Int32)), (.int (0 : Int32)), (.int (0 : Int32)), (.int (0 : Int32)), (.int (0 : Int32)), (.int (0 : Int32)), (.int (0 : Int32)), (.int (0 : Int32)), (.int (0 : Int32)), (.int (0 : Int32)), (.int (0 : Int32)), (.int (0 : Int32)), (.int (0 : Int32)), (.int (0 : Int32)), (.int (0 : Int32)), (.int (0 : Int32)), (.int (0 : Int32)), (.int (0 : Int32)), (.int (0 : Int32)), (.int (0 : Int32)), (.int (0 : Int32)), (.int (0 : Int32)), (.int (0 : Int32)), (.int (0 : Int32))] (.int (0 : Int32)) := (Arv.new A8 (by decide)).pad (pad_rep [] (.int (0 : Int32)) 40)
    obtain ⟨vl0, hvl0⟩ : ∃ v : List Value, v = [(.int (0 : Int32)), (.int (0 : Int32)), (.int (0 : Int32)), (.int (0 : Int32)), (.int (0 : Int32)), (.int (0 : Int32)), (.int (0 : Int32)), (.int (0 : Int32)), (.int (0 : Int32)), (.int (0 : Int32)), (.int (0 : Int32)), (.int (0 : Int32)), (.int (0 : Int32)), (.int (0 : Int32)), (.int (0 : Int32)), (.int (0 : Int32)), (.int (0 : Int32)), (.int (0 : Int32)), (.int (0 : Int32)), (.int (0 : Int32)), (.int (0 : Int32)), (.int (0 : Int32)), (.int (0 : Int32)), (.int (0 : Int32)), (.int (0 : Int32)), (.int (0 : Int32)), (.int (0 : Int32)), (.int (0 : Int32)), (.int (0 : Int32)), (.int (0 : Int32)), (.int (0 : Int32)), (.int (0 : Int32)), (.int (0 : Int32)), (.int (0 : Int32)), (.int (0 : Int32)), (.int (0 : Int32)), (.int (0 : Int32)), (.int (0 : Int32)), (.int (0 : Int32)), (.int (0 : Int32))] := ⟨_, rfl⟩
    have ll0 : vl0.length = 40 := by rw [hvl0]; rfl
    rw [← hvl0] at V10
    obtain ⟨nn, hnn⟩ : ∃ n, n = of.toNatClampNeg := ⟨_, rfl⟩
    refine s_astore (pc' := 166) X8.here hx (l' := #[.val (.long w0), .second, .val (.long w1), .second, .val (.long w2), .second, .val (.long w3), .second, .val (.long q4), .second, .val (.int p5), .val (.int of), .val (.int ne), .val (.int cc), .val (.ref ba), .unset, .unset, .unset, .unset, .unset, .unset, .unset, .unset, .unset, .unset, .unset, .unset, .unset, .unset]) (hb hby at_164) rfl rfl rfl ?_
    refine s_aload (pc' := 168) X8.here hx (hb hby at_166) rfl rfl rfl ?_
    refine s_iconst (pc' := 169) X8.here hx (v := (0 : Int32)) (hb hby at_168) rfl rfl ?_
    refine s_lload (pc' := 171) X8.here hx (hb hby at_169) rfl rfl ?_
    refine s_callS (pc' := 174) (W := 0) X8 hx hZ  hown (hw _ (List.mem_of_getElem? (i := 1) rfl)) (hw _ (List.mem_of_getElem? (i := 2) rfl)) (hw _ (List.mem_of_getElem? (i := 3) rfl)) (hw _ (List.mem_of_getElem? (i := 4) rfl)) (by decide) e8 (own_rm1 l Z a0 hw [] ba (0 : Int32) q4 ka8 vl0 0 hp8 n0 Z9 V10 (by decide) rfl (by decide) ll0 g_ba) (by rw [hml]; rfl) [(.ref ba), (.int (0 : Int32)), (.long q4)] [] rfl (lenOf own_pd0 rfl) rfl (Nat.le_of_eq rfl) (by decide) (by decide) (by decide) (by decide) rfl (hb hby at_171) fun T12 v12 Lc12 X12 hQ12 => ?_
    obtain ⟨rfl, Nq12, Kq12, Vp11⟩ := hQ12
    have N12 := Fr.app N0 Nq12
    have Z13 : n0 ≤ T12.heap.size := Nat.le_trans Z9 Kq12.1
    show Ends p.tables e below (T12.setTop (mkF m 174 #[.val (.long w0), .second, .val (.long w1), .second, .val (.long w2), .second, .val (.long w3), .second, .val (.long q4), .second, .val (.int p5), .val (.int of), .val (.int ne), .val (.int cc), .val (.ref ba), .unset, .unset, .unset, .unset, .unset, .unset, .unset, .unset, .unset, .unset, .unset, .unset, .unset, .unset] [])) _
    obtain ⟨vl1, hvl1⟩ : ∃ v : List Value, v = own_put vl0 0 q4 := ⟨_, rfl⟩
    rw [← hvl1] at Vp11
    have ll1 : vl1.length = 40 := by rw [hvl1, own_putLen, ll0]
    refine s_aload (pc' := 176) X12.here hx (hb hby at_174) rfl rfl rfl ?_
    refine s_bipush (pc' := 178) X12.here hx (v := (8 : Int32)) (hb hby at_176) rfl rfl ?_
    refine s_lload (pc' := 180) X12.here hx (hb hby at_178) rfl rfl ?_
    refine s_callS (pc' := 183) (W := 0) X12 hx hZ  hown (hw _ (List.mem_of_getElem? (i := 1) rfl)) (hw _ (List.mem_of_getElem? (i := 2) rfl)) (hw _ (List.mem_of_getElem? (i := 3) rfl)) (hw _ (List.mem_of_getElem? (i := 4) rfl)) (by decide) rfl (own_rm1 l Z a0 hw [] ba (8 : Int32) q4 ka8 vl1 8 T12.heap n0 Z13 Vp11 (by decide) rfl (by decide) ll1 g_ba) (by rw [hml]; rfl) [(.ref ba), (.int (8 : Int32)), (.long q4)] [] rfl (lenOf own_pd0 rfl) rfl (Nat.le_of_eq rfl) (by decide) (by decide) (by decide) (by decide) rfl (hb hby at_180) fun T15 v15 Lc15 X15 hQ15 => ?_
    obtain ⟨rfl, Nq15, Kq15, Vp14⟩ := hQ15
    have N15 := Fr.app N12 Nq15
    have Z16 : n0 ≤ T15.heap.size := Nat.le_trans Z13 Kq15.1
    show Ends p.tables e below (T15.setTop (mkF m 183 #[.val (.long w0), .second, .val (.long w1), .second, .val (.long w2), .second, .val (.long w3), .second, .val (.long q4), .second, .val (.int p5), .val (.int of), .val (.int ne), .val (.int cc), .val (.ref ba), .unset, .unset, .unset, .unset, .unset, .unset, .unset, .unset, .unset, .unset, .unset, .unset, .unset, .unset] [])) _
    obtain ⟨vl2, hvl2⟩ : ∃ v : List Value, v = own_put vl1 8 q4 := ⟨_, rfl⟩
    rw [← hvl2] at Vp14
    have ll2 : vl2.length = 40 := by rw [hvl2, own_putLen, ll1]
    refine s_aload (pc' := 185) X15.here hx (hb hby at_183) rfl rfl rfl ?_
    refine s_bipush (pc' := 187) X15.here hx (v := (16 : Int32)) (hb hby at_185) rfl rfl ?_
    refine s_lload (pc' := 189) X15.here hx (hb hby at_187) rfl rfl ?_
    refine s_callS (pc' := 192) (W := 0) X15 hx hZ  hown (hw _ (List.mem_of_getElem? (i := 1) rfl)) (hw _ (List.mem_of_getElem? (i := 2) rfl)) (hw _ (List.mem_of_getElem? (i := 3) rfl)) (hw _ (List.mem_of_getElem? (i := 4) rfl)) (by decide) rfl (own_rm1 l Z a0 hw [] ba (16 : Int32) q4 ka8 vl2 16 T15.heap n0 Z16 Vp14 (by decide) rfl (by decide) ll2 g_ba) (by rw [hml]; rfl) [(.ref ba), (.int (16 : Int32)), (.long q4)] [] rfl (lenOf own_pd0 rfl) rfl (Nat.le_of_eq rfl) (by decide) (by decide) (by decide) (by decide) rfl (hb hby at_189) fun T18 v18 Lc18 X18 hQ18 => ?_
    obtain ⟨rfl, Nq18, Kq18, Vp17⟩ := hQ18
    have N18 := Fr.app N15 Nq18
    have Z19 : n0 ≤ T18.heap.size := Nat.le_trans Z16 Kq18.1
    show Ends p.tables e below (T18.setTop (mkF m 192 #[.val (.long w0), .second, .val (.long w1), .second, .val (.long w2), .second, .val (.long w3), .second, .val (.long q4), .second, .val (.int p5), .val (.int of), .val (.int ne), .val (.int cc), .val (.ref ba), .unset, .unset, .unset, .unset, .unset, .unset, .unset, .unset, .unset, .unset, .unset, .unset, .unset, .unset] [])) _
    obtain ⟨vl3, hvl3⟩ : ∃ v : List Value, v = own_put vl2 16 q4 := ⟨_, rfl⟩
    rw [← hvl3] at Vp17
    have ll3 : vl3.length = 40 := by rw [hvl3, own_putLen, ll2]
    refine s_aload (pc' := 194) X18.here hx (hb hby at_192) rfl rfl rfl ?_
    refine s_bipush (pc' := 196) X18.here hx (v := (24 : Int32)) (hb hby at_194) rfl rfl ?_
    refine s_lload (pc' := 198) X18.here hx (hb hby at_196) rfl rfl ?_
    refine s_callS (pc' := 201) (W := 0) X18 hx hZ  hown (hw _ (List.mem_of_getElem? (i := 1) rfl)) (hw _ (List.mem_of_getElem? (i := 2) rfl)) (hw _ (List.mem_of_getElem? (i := 3) rfl)) (hw _ (List.mem_of_getElem? (i := 4) rfl)) (by decide) rfl (own_rm1 l Z a0 hw [] ba (24 : Int32) q4 ka8 vl3 24 T18.heap n0 Z19 Vp17 (by decide) rfl (by decide) ll3 g_ba) (by rw [hml]; rfl) [(.ref ba), (.int (24 : Int32)), (.long q4)] [] rfl (lenOf own_pd0 rfl) rfl (Nat.le_of_eq rfl) (by decide) (by decide) (by decide) (by decide) rfl (hb hby at_198) fun T21 v21 Lc21 X21 hQ21 => ?_
    obtain ⟨rfl, Nq21, Kq21, Vp20⟩ := hQ21
    have N21 := Fr.app N18 Nq21
    have Z22 : n0 ≤ T21.heap.size := Nat.le_trans Z19 Kq21.1
    show Ends p.tables e below (T21.setTop (mkF m 201 #[.val (.long w0), .second, .val (.long w1), .second, .val (.long w2), .second, .val (.long w3), .second, .val (.long q4), .second, .val (.int p5), .val (.int of), .val (.int ne), .val (.int cc), .val (.ref ba), .unset, .unset, .unset, .unset, .unset, .unset, .unset, .unset, .unset, .unset, .unset, .unset, .unset, .unset] [])) _
    obtain ⟨vl4, hvl4⟩ : ∃ v : List Value, v = own_put vl3 24 q4 := ⟨_, rfl⟩
    rw [← hvl4] at Vp20
    have ll4 : vl4.length = 40 := by rw [hvl4, own_putLen, ll3]
    refine s_aload (pc' := 203) X21.here hx (hb hby at_201) rfl rfl rfl ?_
    refine s_bipush (pc' := 205) X21.here hx (v := (32 : Int32)) (hb hby at_203) rfl rfl ?_
    refine s_lload (pc' := 207) X21.here hx (hb hby at_205) rfl rfl ?_
    refine s_callS (pc' := 210) (W := 0) X21 hx hZ  hown (hw _ (List.mem_of_getElem? (i := 1) rfl)) (hw _ (List.mem_of_getElem? (i := 2) rfl)) (hw _ (List.mem_of_getElem? (i := 3) rfl)) (hw _ (List.mem_of_getElem? (i := 4) rfl)) (by decide) rfl (own_rm1 l Z a0 hw [] ba (32 : Int32) q4 ka8 vl4 32 T21.heap n0 Z22 Vp20 (by decide) rfl (by decide) ll4 g_ba) (by rw [hml]; rfl) [(.ref ba), (.int (32 : Int32)), (.long q4)] [] rfl (lenOf own_pd0 rfl) rfl (Nat.le_of_eq rfl) (by decide) (by decide) (by decide) (by decide) rfl (hb hby at_207) fun T24 v24 Lc24 X24 hQ24 => ?_
    obtain ⟨rfl, Nq24, Kq24, Vp23⟩ := hQ24
    have N24 := Fr.app N21 Nq24
    have Z25 : n0 ≤ T24.heap.size := Nat.le_trans Z22 Kq24.1
    show Ends p.tables e below (T24.setTop (mkF m 210 #[.val (.long w0), .second, .val (.long w1), .second, .val (.long w2), .second, .val (.long w3), .second, .val (.long q4), .second, .val (.int p5), .val (.int of), .val (.int ne), .val (.int cc), .val (.ref ba), .unset, .unset, .unset, .unset, .unset, .unset, .unset, .unset, .unset, .unset, .unset, .unset, .unset, .unset] [])) _
    obtain ⟨vl5, hvl5⟩ : ∃ v : List Value, v = own_put vl4 32 q4 := ⟨_, rfl⟩
    rw [← hvl5] at Vp23
    have ll5 : vl5.length = 40 := by rw [hvl5, own_putLen, ll4]
    refine s_aload (pc' := 212) X24.here hx (hb hby at_210) rfl rfl rfl ?_
    refine s_iload (pc' := 214) X24.here hx (hb hby at_212) rfl rfl ?_
    refine s_lloadN (pc' := 215) X24.here hx (hb hby at_214) rfl rfl ?_
    refine s_callS (pc' := 218) (W := 0) X24 hx hZ  hown (hw _ (List.mem_of_getElem? (i := 1) rfl)) (hw _ (List.mem_of_getElem? (i := 2) rfl)) (hw _ (List.mem_of_getElem? (i := 3) rfl)) (hw _ (List.mem_of_getElem? (i := 4) rfl)) (by decide) rfl (own_rm1 l Z a0 hw [] ba of w0 ka8 vl5 nn T24.heap n0 Z25 Vp23 of0 hnn.symm (by omega) ll5 g_ba) (by rw [hml]; rfl) [(.ref ba), (.int of), (.long w0)] [] rfl (lenOf own_pd0 rfl) rfl (Nat.le_of_eq rfl) (by decide) (by decide) (by decide) (by decide) rfl (hb hby at_215) fun T27 v27 Lc27 X27 hQ27 => ?_
    obtain ⟨rfl, Nq27, Kq27, Vp26⟩ := hQ27
    have N27 := Fr.app N24 Nq27
    have Z28 : n0 ≤ T27.heap.size := Nat.le_trans Z25 Kq27.1
    show Ends p.tables e below (T27.setTop (mkF m 218 #[.val (.long w0), .second, .val (.long w1), .second, .val (.long w2), .second, .val (.long w3), .second, .val (.long q4), .second, .val (.int p5), .val (.int of), .val (.int ne), .val (.int cc), .val (.ref ba), .unset, .unset, .unset, .unset, .unset, .unset, .unset, .unset, .unset, .unset, .unset, .unset, .unset, .unset] [])) _
    obtain ⟨vl6, hvl6⟩ : ∃ v : List Value, v = own_put vl5 nn w0 := ⟨_, rfl⟩
    rw [← hvl6] at Vp26
    have ll6 : vl6.length = 40 := by rw [hvl6, own_putLen, ll5]
    refine s_aload (pc' := 220) X27.here hx (hb hby at_218) rfl rfl rfl ?_
    refine s_iload (pc' := 222) X27.here hx (hb hby at_220) rfl rfl ?_
    refine s_bipush (pc' := 224) X27.here hx (v := (8 : Int32)) (hb hby at_222) rfl rfl ?_
    refine s_iadd (pc' := 225) X27.here hx (hb hby at_224) rfl ?_
    refine s_lloadN (pc' := 226) X27.here hx (hb hby at_225) rfl rfl ?_
    have iq6 := own_idx (o := of) (i := (8 : Int32)) (n := nn) (k := 8) of0 hnn.symm (by decide) (by omega)
    refine s_callS (pc' := 229) (W := 0) X27 hx hZ  hown (hw _ (List.mem_of_getElem? (i := 1) rfl)) (hw _ (List.mem_of_getElem? (i := 2) rfl)) (hw _ (List.mem_of_getElem? (i := 3) rfl)) (hw _ (List.mem_of_getElem? (i := 4) rfl)) (by decide) rfl (own_rm1 l Z a0 hw [] ba (of + (8 : Int32)) w1 ka8 vl6 (nn + 8) T27.heap n0 Z28 Vp26 iq6.1 iq6.2.2 (by omega) ll6 g_ba) (by rw [hml]; rfl) [(.ref ba), (.int (of + (8 : Int32))), (.long w1)] [] rfl (lenOf own_pd0 rfl) rfl (Nat.le_of_eq rfl) (by decide) (by decide) (by decide) (by decide) rfl (hb hby at_226) fun T30 v30 Lc30 X30 hQ30 => ?_
    obtain ⟨rfl, Nq30, Kq30, Vp29⟩ := hQ30
    have N30 := Fr.app N27 Nq30
    have Z31 : n0 ≤ T30.heap.size := Nat.le_trans Z28 Kq30.1
    show Ends p.tables e below (T30.setTop (mkF m 229 #[.val (.long w0), .second, .val (.long w1), .second, .val (.long w2), .second, .val (.long w3), .second, .val (.long q4), .second, .val (.int p5), .val (.int of), .val (.int ne), .val (.int cc), .val (.ref ba), .unset, .unset, .unset, .unset, .unset, .unset, .unset, .unset, .unset, .unset, .unset, .unset, .unset, .unset] [])) _
    obtain ⟨vl7, hvl7⟩ : ∃ v : List Value, v = own_put vl6 (nn + 8) w1 := ⟨_, rfl⟩
    rw [← hvl7] at Vp29
    have ll7 : vl7.length = 40 := by rw [hvl7, own_putLen, ll6]
    refine s_aload (pc' := 231) X30.here hx (hb hby at_229) rfl rfl rfl ?_
    refine s_iload (pc' := 233) X30.here hx (hb hby at_231) rfl rfl ?_
    refine s_bipush (pc' := 235) X30.here hx (v := (16 : Int32)) (hb hby at_233) rfl rfl ?_
    refine s_iadd (pc' := 236) X30.here hx (hb hby at_235) rfl ?_
    refine s_lload (pc' := 238) X30.here hx (hb hby at_236) rfl rfl ?_
    have iq7 := own_idx (o := of) (i := (16 : Int32)) (n := nn) (k := 16) of0 hnn.symm (by decide) (by omega)
    refine s_callS (pc' := 241) (W := 0) X30 hx hZ  hown (hw _ (List.mem_of_getElem? (i := 1) rfl)) (hw _ (List.mem_of_getElem? (i := 2) rfl)) (hw _ (List.mem_of_getElem? (i := 3) rfl)) (hw _ (List.mem_of_getElem? (i := 4) rfl)) (by decide) rfl (own_rm1 l Z a0 hw [] ba (of + (16 : Int32)) w2 ka8 vl7 (nn + 16) T30.heap n0 Z31 Vp29 iq7.1 iq7.2.2 (by omega) ll7 g_ba) (by rw [hml]; rfl) [(.ref ba), (.int (of + (16 : Int32))), (.long w2)] [] rfl (lenOf own_pd0 rfl) rfl (Nat.le_of_eq rfl) (by decide) (by decide) (by decide) (by decide) rfl (hb hby at_238) fun T33 v33 Lc33 X33 hQ33 => ?_
    obtain ⟨rfl, Nq33, Kq33, Vp32⟩ := hQ33
    have N33 := Fr.app N30 Nq33
    have Z34 : n0 ≤ T33.heap.size := Nat.le_trans Z31 Kq33.1
    show Ends p.tables e below (T33.setTop (mkF m 241 #[.val (.long w0), .second, .val (.long w1), .second, .val (.long w2), .second, .val (.long w3), .second, .val (.long q4), .second, .val (.int p5), .val (.int of), .val (.int ne), .val (.int cc), .val (.ref ba), .unset, .unset, .unset, .unset, .unset, .unset, .unset, .unset, .unset, .unset, .unset, .unset, .unset, .unset] [])) _
    obtain ⟨vl8, hvl8⟩ : ∃ v : List Value, v = own_put vl7 (nn + 16) w2 := ⟨_, rfl⟩
    rw [← hvl8] at Vp32
    have ll8 : vl8.length = 40 := by rw [hvl8, own_putLen, ll7]
    refine s_aload (pc' := 243) X33.here hx (hb hby at_241) rfl rfl rfl ?_
    refine s_iload (pc' := 245) X33.here hx (hb hby at_243) rfl rfl ?_
    refine s_bipush (pc' := 247) X33.here hx (v := (24 : Int32)) (hb hby at_245) rfl rfl ?_
    refine s_iadd (pc' := 248) X33.here hx (hb hby at_247) rfl ?_
    refine s_lload (pc' := 250) X33.here hx (hb hby at_248) rfl rfl ?_
    have iq8 := own_idx (o := of) (i := (24 : Int32)) (n := nn) (k := 24) of0 hnn.symm (by decide) (by omega)
    refine s_callS (pc' := 253) (W := 0) X33 hx hZ  hown (hw _ (List.mem_of_getElem? (i := 1) rfl)) (hw _ (List.mem_of_getElem? (i := 2) rfl)) (hw _ (List.mem_of_getElem? (i := 3) rfl)) (hw _ (List.mem_of_getElem? (i := 4) rfl)) (by decide) rfl (own_rm1 l Z a0 hw [] ba (of + (24 : Int32)) w3 ka8 vl8 (nn + 24) T33.heap n0 Z34 Vp32 iq8.1 iq8.2.2 (by omega) ll8 g_ba) (by rw [hml]; rfl) [(.ref ba), (.int (of + (24 : Int32))), (.long w3)] [] rfl (lenOf own_pd0 rfl) rfl (Nat.le_of_eq rfl) (by decide) (by decide) (by decide) (by decide) rfl (hb hby at_250) fun T36 v36 Lc36 X36 hQ36 => ?_
    obtain ⟨rfl, Nq36, Kq36, Vp35⟩ := hQ36
    have N36 := Fr.app N33 Nq36
    have Z37 : n0 ≤ T36.heap.size := Nat.le_trans Z34 Kq36.1
    show Ends p.tables e below (T36.setTop (mkF m 253 #[.val (.long w0), .second, .val (.long w1), .second, .val (.long w2), .second, .val (.long w3), .second, .val (.long q4), .second, .val (.int p5), .val (.int of), .val (.int ne), .val (.int cc), .val (.ref ba), .unset, .unset, .unset, .unset, .unset, .unset, .unset, .unset, .unset, .unset, .unset, .unset, .unset, .unset] [])) _
    obtain ⟨vl9, hvl9⟩ : ∃ v : List Value, v = own_put vl8 (nn + 24) w3 := ⟨_, rfl⟩
    rw [← hvl9] at Vp35
    have ll9 : vl9.length = 40 := by rw [hvl9, own_putLen, ll8]
    refine s_aload (pc' := 255) X36.here hx (hb hby at_253) rfl rfl rfl ?_
    refine s_iload (pc' := 257) X36.here hx (hb hby at_255) rfl rfl ?_
    have hbb : ∀ j, j < 32 → vl9.getD (nn + j) (.int (0 : Int32)) = .int (own_bb w0 w1 w2 w3 j) := by rw [hvl9, hvl8, hvl7, hvl6]; exact own_hb vl5 nn w0 w1 w2 w3 _ ll5 (by omega)
    refine s_callS (pc' := 260) (W := 0) X36 hx hZ  hown (hw _ (List.mem_of_getElem? (i := 5) rfl)) (hw _ (List.mem_of_getElem? (i := 6) rfl)) (hw _ (List.mem_of_getElem? (i := 7) rfl)) (hw _ (List.mem_of_getElem? (i := 8) rfl)) (by decide) rfl (own_rm2 l Z a0 hw [] ba of ka8 vl9 nn (own_bb w0 w1 w2 w3) (own_e0 w0) (own_e1 w0 w1) (own_e2 w1 w2) (own_e3 w2 w3) (own_e4 w3) T36.heap n0 Z37 Vp35 of0 hnn.symm (by omega) hbb (own_f0 w0 w1 w2 w3) (own_f1 w0 w1 w2 w3) (own_f2 w0 w1 w2 w3) (own_f3 w0 w1 w2 w3) (own_f4 w0 w1 w2 w3)) (by rw [hml]; rfl) [(.ref ba), (.int of)] [] rfl (lenOf own_pd1 rfl) rfl (Nat.le_of_eq rfl) (by decide) (by decide) (by decide) (by decide) rfl (hb hby at_257) fun T38 v38 Lc38 X38 hQ38 => ?_
    obtain ⟨rb, kb, rfl, Nq38, Kq38, szr, Vr⟩ := hQ38
    have g_rb : n0 ≤ rb := Nat.le_trans Z37 szr
    have ne39 : ba ≠ rb := Nat.ne_of_lt (Nat.lt_of_lt_of_le Vp35.lt szr)
    have N38 := Fr.app N36 Nq38
    have f40 := Vp35.keep Kq38 nin0
    have Z41 : n0 ≤ T38.heap.size := Nat.le_trans Z37 Kq38.1
    show Ends p.tables e below (T38.setTop (mkF m 260 #[.val (.long w0), .second, .val (.long w1), .second, .val (.long w2), .second, .val (.long w3), .second, .val (.long q4), .second, .val (.int p5), .val (.int of), .val (.int ne), .val (.int cc), .val (.ref ba), .unset, .unset, .unset, .unset, .unset, .unset, .unset, .unset, .unset, .unset, .unset, .unset, .unset, .unset] [(own_res (own_e0 w0) (own_e1 w0 w1) (own_e2 w1 w2) (own_e3 w2 w3) (own_e4 w3) rb)])) _
    by_cases hB : ¬ (own_e0 w0) < (2251799813685229 : Int64) ∧ (own_e1 w0 w1) = (2251799813685247 : Int64) ∧ (own_e2 w1 w2) = (2251799813685247 : Int64) ∧ (own_e3 w2 w3) = (2251799813685247 : Int64) ∧ (own_e4 w3) = (2251799813685247 : Int64)
    · rw [own_resNull hB]
      obtain ⟨t3, t2, t1, t0, t19⟩ := (own_big w0 w1 w2 w3).mp hB
      refine s_astore (pc' := 262) X38.here hx (l' := #[.val (.long w0), .second, .val (.long w1), .second, .val (.long w2), .second, .val (.long w3), .second, .val (.long q4), .second, .val (.int p5), .val (.int of), .val (.int ne), .val (.int cc), .val (.ref ba), .val .null, .unset, .unset, .unset, .unset, .unset, .unset, .unset, .unset, .unset, .unset, .unset, .unset, .unset]) (hb hby at_260) rfl rfl rfl ?_
      refine s_ldcJ (pc' := 265) X38 hx hZ hown (hw _ (List.mem_of_getElem? (i := 12) rfl)) (hb hby at_262) rfl ?_
      refine s_lstore (pc' := 267) X38.here hx (l' := #[.val (.long w0), .second, .val (.long w1), .second, .val (.long w2), .second, .val (.long w3), .second, .val (.long q4), .second, .val (.int p5), .val (.int of), .val (.int ne), .val (.int cc), .val (.ref ba), .val .null, .val (.long (2251799813685247 : Int64)), .second, .unset, .unset, .unset, .unset, .unset, .unset, .unset, .unset, .unset, .unset, .unset]) (hb hby at_265) rfl rfl ?_
      refine s_lloadN (pc' := 268) X38.here hx (hb hby at_267) rfl rfl ?_
      refine s_lload (pc' := 270) X38.here hx (hb hby at_268) rfl rfl ?_
      refine s_land (pc' := 271) X38.here hx (hb hby at_270) rfl ?_
      refine s_lstore (pc' := 273) X38.here hx (l' := #[.val (.long w0), .second, .val (.long w1), .second, .val (.long w2), .second, .val (.long w3), .second, .val (.long q4), .second, .val (.int p5), .val (.int of), .val (.int ne), .val (.int cc), .val (.ref ba), .val .null, .val (.long (2251799813685247 : Int64)), .second, .val (.long (w0 &&& (2251799813685247 : Int64))), .second, .unset, .unset, .unset, .unset, .unset, .unset, .unset, .unset, .unset]) (hb hby at_271) rfl rfl ?_
      refine s_lloadN (pc' := 274) X38.here hx (hb hby at_273) rfl rfl ?_
      refine s_bipush (pc' := 276) X38.here hx (v := (51 : Int32)) (hb hby at_274) rfl rfl ?_
      refine s_lushr (pc' := 277) X38.here hx (hb hby at_276) rfl ?_
      refine s_lloadN (pc' := 278) X38.here hx (hb hby at_277) rfl rfl ?_
      refine s_bipush (pc' := 280) X38.here hx (v := (13 : Int32)) (hb hby at_278) rfl rfl ?_
      refine s_lshl (pc' := 281) X38.here hx (hb hby at_280) rfl ?_
      refine s_lor (pc' := 282) X38.here hx (hb hby at_281) rfl ?_
      refine s_lload (pc' := 284) X38.here hx (hb hby at_282) rfl rfl ?_
      refine s_land (pc' := 285) X38.here hx (hb hby at_284) rfl ?_
      refine s_lstore (pc' := 287) X38.here hx (l' := #[.val (.long w0), .second, .val (.long w1), .second, .val (.long w2), .second, .val (.long w3), .second, .val (.long q4), .second, .val (.int p5), .val (.int of), .val (.int ne), .val (.int cc), .val (.ref ba), .val .null, .val (.long (2251799813685247 : Int64)), .second, .val (.long (w0 &&& (2251799813685247 : Int64))), .second, .val (.long ((((w0.toUInt64 >>> ((51 : Int32) &&& 0x3f).toInt64.toUInt64).toInt64) ||| (w1 <<< ((13 : Int32) &&& 0x3f).toInt64)) &&& (2251799813685247 : Int64))), .second, .unset, .unset, .unset, .unset, .unset, .unset, .unset]) (hb hby at_285) rfl rfl ?_
      refine s_lloadN (pc' := 288) X38.here hx (hb hby at_287) rfl rfl ?_
      refine s_bipush (pc' := 290) X38.here hx (v := (38 : Int32)) (hb hby at_288) rfl rfl ?_
      refine s_lushr (pc' := 291) X38.here hx (hb hby at_290) rfl ?_
      refine s_lload (pc' := 293) X38.here hx (hb hby at_291) rfl rfl ?_
      refine s_bipush (pc' := 295) X38.here hx (v := (26 : Int32)) (hb hby at_293) rfl rfl ?_
      refine s_lshl (pc' := 296) X38.here hx (hb hby at_295) rfl ?_
      refine s_lor (pc' := 297) X38.here hx (hb hby at_296) rfl ?_
      refine s_lload (pc' := 299) X38.here hx (hb hby at_297) rfl rfl ?_
      refine s_land (pc' := 300) X38.here hx (hb hby at_299) rfl ?_
      refine s_lstore (pc' := 302) X38.here hx (l' := #[.val (.long w0), .second, .val (.long w1), .second, .val (.long w2), .second, .val (.long w3), .second, .val (.long q4), .second, .val (.int p5), .val (.int of), .val (.int ne), .val (.int cc), .val (.ref ba), .val .null, .val (.long (2251799813685247 : Int64)), .second, .val (.long (w0 &&& (2251799813685247 : Int64))), .second, .val (.long ((((w0.toUInt64 >>> ((51 : Int32) &&& 0x3f).toInt64.toUInt64).toInt64) ||| (w1 <<< ((13 : Int32) &&& 0x3f).toInt64)) &&& (2251799813685247 : Int64))), .second, .val (.long ((((w1.toUInt64 >>> ((38 : Int32) &&& 0x3f).toInt64.toUInt64).toInt64) ||| (w2 <<< ((26 : Int32) &&& 0x3f).toInt64)) &&& (2251799813685247 : Int64))), .second, .unset, .unset, .unset, .unset, .unset]) (hb hby at_300) rfl rfl ?_
      refine s_lload (pc' := 304) X38.here hx (hb hby at_302) rfl rfl ?_
      refine s_bipush (pc' := 306) X38.here hx (v := (25 : Int32)) (hb hby at_304) rfl rfl ?_
      refine s_lushr (pc' := 307) X38.here hx (hb hby at_306) rfl ?_
      refine s_lload (pc' := 309) X38.here hx (hb hby at_307) rfl rfl ?_
      refine s_bipush (pc' := 311) X38.here hx (v := (39 : Int32)) (hb hby at_309) rfl rfl ?_
      refine s_lshl (pc' := 312) X38.here hx (hb hby at_311) rfl ?_
      refine s_lor (pc' := 313) X38.here hx (hb hby at_312) rfl ?_
      refine s_lload (pc' := 315) X38.here hx (hb hby at_313) rfl rfl ?_
      refine s_land (pc' := 316) X38.here hx (hb hby at_315) rfl ?_
      refine s_lstore (pc' := 318) X38.here hx (l' := #[.val (.long w0), .second, .val (.long w1), .second, .val (.long w2), .second, .val (.long w3), .second, .val (.long q4), .second, .val (.int p5), .val (.int of), .val (.int ne), .val (.int cc), .val (.ref ba), .val .null, .val (.long (2251799813685247 : Int64)), .second, .val (.long (w0 &&& (2251799813685247 : Int64))), .second, .val (.long ((((w0.toUInt64 >>> ((51 : Int32) &&& 0x3f).toInt64.toUInt64).toInt64) ||| (w1 <<< ((13 : Int32) &&& 0x3f).toInt64)) &&& (2251799813685247 : Int64))), .second, .val (.long ((((w1.toUInt64 >>> ((38 : Int32) &&& 0x3f).toInt64.toUInt64).toInt64) ||| (w2 <<< ((26 : Int32) &&& 0x3f).toInt64)) &&& (2251799813685247 : Int64))), .second, .val (.long ((((w2.toUInt64 >>> ((25 : Int32) &&& 0x3f).toInt64.toUInt64).toInt64) ||| (w3 <<< ((39 : Int32) &&& 0x3f).toInt64)) &&& (2251799813685247 : Int64))), .second, .unset, .unset, .unset]) (hb hby at_316) rfl rfl ?_
      refine s_lload (pc' := 320) X38.here hx (hb hby at_318) rfl rfl ?_
      refine s_bipush (pc' := 322) X38.here hx (v := (12 : Int32)) (hb hby at_320) rfl rfl ?_
      refine s_lushr (pc' := 323) X38.here hx (hb hby at_322) rfl ?_
      refine s_lload (pc' := 325) X38.here hx (hb hby at_323) rfl rfl ?_
      refine s_land (pc' := 326) X38.here hx (hb hby at_325) rfl ?_
      refine s_lstore (pc' := 328) X38.here hx (l' := #[.val (.long w0), .second, .val (.long w1), .second, .val (.long w2), .second, .val (.long w3), .second, .val (.long q4), .second, .val (.int p5), .val (.int of), .val (.int ne), .val (.int cc), .val (.ref ba), .val .null, .val (.long (2251799813685247 : Int64)), .second, .val (.long (w0 &&& (2251799813685247 : Int64))), .second, .val (.long ((((w0.toUInt64 >>> ((51 : Int32) &&& 0x3f).toInt64.toUInt64).toInt64) ||| (w1 <<< ((13 : Int32) &&& 0x3f).toInt64)) &&& (2251799813685247 : Int64))), .second, .val (.long ((((w1.toUInt64 >>> ((38 : Int32) &&& 0x3f).toInt64.toUInt64).toInt64) ||| (w2 <<< ((26 : Int32) &&& 0x3f).toInt64)) &&& (2251799813685247 : Int64))), .second, .val (.long ((((w2.toUInt64 >>> ((25 : Int32) &&& 0x3f).toInt64.toUInt64).toInt64) ||| (w3 <<< ((39 : Int32) &&& 0x3f).toInt64)) &&& (2251799813685247 : Int64))), .second, .val (.long (((w3.toUInt64 >>> ((12 : Int32) &&& 0x3f).toInt64.toUInt64).toInt64) &&& (2251799813685247 : Int64))), .second, .unset]) (hb hby at_326) rfl rfl ?_
      refine s_lload (pc' := 330) X38.here hx (hb hby at_328) rfl rfl ?_
      refine s_ldcJ (pc' := 333) X38 hx hZ hown (hw _ (List.mem_of_getElem? (i := 13) rfl)) (hb hby at_330) rfl ?_
      refine s_land (pc' := 334) X38.here hx (hb hby at_333) rfl ?_
      refine s_ldcJ (pc' := 337) X38 hx hZ hown (hw _ (List.mem_of_getElem? (i := 13) rfl)) (hb hby at_334) rfl ?_
      refine s_lcmp (pc' := 338) X38.here hx (hb hby at_337) rfl ?_
      have hk42 : (w3 &&& (9223372036854775807 : Int64)) = (9223372036854775807 : Int64) := t3
      refine s_ifNo (pc' := 341) X38.here hx (hb hby at_338) ((if0 _ _).trans (teq ((lw_eq (w3 &&& (9223372036854775807 : Int64)) (9223372036854775807 : Int64)).mpr hk42)).2) rfl ?_
      refine s_lload (pc' := 343) X38.here hx (hb hby at_341) rfl rfl ?_
      refine s_ldcJ (pc' := 346) X38 hx hZ hown (hw _ (List.mem_of_getElem? (i := 15) rfl)) (hb hby at_343) rfl ?_
      refine s_lcmp (pc' := 347) X38.here hx (hb hby at_346) rfl ?_
      have hk43 : w2 = (-1 : Int64) := t2
      refine s_ifNo (pc' := 350) X38.here hx (hb hby at_347) ((if0 _ _).trans (teq ((lw_eq w2 (-1 : Int64)).mpr hk43)).2) rfl ?_
      refine s_lloadN (pc' := 351) X38.here hx (hb hby at_350) rfl rfl ?_
      refine s_ldcJ (pc' := 354) X38 hx hZ hown (hw _ (List.mem_of_getElem? (i := 15) rfl)) (hb hby at_351) rfl ?_
      refine s_lcmp (pc' := 355) X38.here hx (hb hby at_354) rfl ?_
      have hk44 : w1 = (-1 : Int64) := t1
      refine s_ifNo (pc' := 358) X38.here hx (hb hby at_355) ((if0 _ _).trans (teq ((lw_eq w1 (-1 : Int64)).mpr hk44)).2) rfl ?_
      refine s_lloadN (pc' := 359) X38.here hx (hb hby at_358) rfl rfl ?_
      refine s_lconst (pc' := 360) X38.here hx (v := (0 : Int64)) (hb hby at_359) rfl rfl ?_
      refine s_lcmp (pc' := 361) X38.here hx (hb hby at_360) rfl ?_
      have hk45 : w0 < (0 : Int64) := t0
      refine s_ifNo (pc' := 364) X38.here hx (hb hby at_361) ((if0 _ _).trans (tlt ((lw_lt w0 (0 : Int64)).mpr hk45)).2.1) rfl ?_
      refine s_lloadN (pc' := 365) X38.here hx (hb hby at_364) rfl rfl ?_
      refine s_ldcJ (pc' := 368) X38 hx hZ hown (hw _ (List.mem_of_getElem? (i := 16) rfl)) (hb hby at_365) rfl ?_
      refine s_lcmp (pc' := 369) X38.here hx (hb hby at_368) rfl ?_
      have hk46 : ¬ (w0 < (-19 : Int64)) := t19
      refine s_ifNo (pc' := 372) X38.here hx (hb hby at_369) ((if0 _ _).trans (flt (fun q_ => hk46 ((lw_lt w0 (-19 : Int64)).mp q_))).1) rfl ?_
      refine s_iconst (pc' := 373) X38.here hx (v := (1 : Int32)) (hb hby at_372) rfl rfl ?_
      refine s_goto (pc' := 377) X38.here hx (hb hby at_373) (by decide) (by decide) ?_
      refine s_istore (pc' := 379) X38.here hx (l' := #[.val (.long w0), .second, .val (.long w1), .second, .val (.long w2), .second, .val (.long w3), .second, .val (.long q4), .second, .val (.int p5), .val (.int of), .val (.int ne), .val (.int cc), .val (.ref ba), .val .null, .val (.long (2251799813685247 : Int64)), .second, .val (.long (w0 &&& (2251799813685247 : Int64))), .second, .val (.long ((((w0.toUInt64 >>> ((51 : Int32) &&& 0x3f).toInt64.toUInt64).toInt64) ||| (w1 <<< ((13 : Int32) &&& 0x3f).toInt64)) &&& (2251799813685247 : Int64))), .second, .val (.long ((((w1.toUInt64 >>> ((38 : Int32) &&& 0x3f).toInt64.toUInt64).toInt64) ||| (w2 <<< ((26 : Int32) &&& 0x3f).toInt64)) &&& (2251799813685247 : Int64))), .second, .val (.long ((((w2.toUInt64 >>> ((25 : Int32) &&& 0x3f).toInt64.toUInt64).toInt64) ||| (w3 <<< ((39 : Int32) &&& 0x3f).toInt64)) &&& (2251799813685247 : Int64))), .second, .val (.long (((w3.toUInt64 >>> ((12 : Int32) &&& 0x3f).toInt64.toUInt64).toInt64) &&& (2251799813685247 : Int64))), .second, .val (.int (1 : Int32))]) (hb hby at_377) rfl rfl ?_
      refine s_iload (pc' := 381) X38.here hx (hb hby at_379) rfl rfl ?_
      have hk47 : ¬ ((1 : Int32) = (0 : Int32)) := by decide
      refine s_ifNo (pc' := 384) X38.here hx (hb hby at_381) ((if0 _ _).trans (feq hk47).1) rfl ?_
      refine s_aload (pc' := 386) X38.here hx (hb hby at_384) rfl rfl rfl ?_
      refine s_ifnonnullNo (pc' := 389) X38.here hx (hb hby at_386) rfl ?_
      refine s_iconst (pc' := 390) X38.here hx (v := (1 : Int32)) (hb hby at_389) rfl rfl ?_
      refine s_goto (pc' := 394) X38.here hx (hb hby at_390) (by decide) (by decide) ?_
      obtain ⟨fs, hr, hrun, hended, hW, hsame⟩ := X38.leave (v := some (.int (1 : Int32))) (fun h => by rw [Bd.returns] at h; cases h)
      refine ⟨_, _, retN X38 hx (t := .boolean) Bd.returns (by simp) (hb hby at_394) hr, hrun, hended, _, _, rfl, ?_, ⟨_, rfl⟩, hW, hsame.mono (by decide) (by decide)⟩
      show own_rm0_Q Z q0 q1 q2 q3 q4 p5 h0 n0 _ T38.heap _
      exact ⟨rfl, N38⟩
    · rw [own_resRef hB]
      refine s_astore (pc' := 262) X38.here hx (l' := #[.val (.long w0), .second, .val (.long w1), .second, .val (.long w2), .second, .val (.long w3), .second, .val (.long q4), .second, .val (.int p5), .val (.int of), .val (.int ne), .val (.int cc), .val (.ref ba), .val (.ref rb), .unset, .unset, .unset, .unset, .unset, .unset, .unset, .unset, .unset, .unset, .unset, .unset, .unset]) (hb hby at_260) rfl rfl rfl ?_
      refine s_ldcJ (pc' := 265) X38 hx hZ hown (hw _ (List.mem_of_getElem? (i := 12) rfl)) (hb hby at_262) rfl ?_
      refine s_lstore (pc' := 267) X38.here hx (l' := #[.val (.long w0), .second, .val (.long w1), .second, .val (.long w2), .second, .val (.long w3), .second, .val (.long q4), .second, .val (.int p5), .val (.int of), .val (.int ne), .val (.int cc), .val (.ref ba), .val (.ref rb), .val (.long (2251799813685247 : Int64)), .second, .unset, .unset, .unset, .unset, .unset, .unset, .unset, .unset, .unset, .unset, .unset]) (hb hby at_265) rfl rfl ?_
      refine s_lloadN (pc' := 268) X38.here hx (hb hby at_267) rfl rfl ?_
      refine s_lload (pc' := 270) X38.here hx (hb hby at_268) rfl rfl ?_
      refine s_land (pc' := 271) X38.here hx (hb hby at_270) rfl ?_
      refine s_lstore (pc' := 273) X38.here hx (l' := #[.val (.long w0), .second, .val (.long w1), .second, .val (.long w2), .second, .val (.long w3), .second, .val (.long q4), .second, .val (.int p5), .val (.int of), .val (.int ne), .val (.int cc), .val (.ref ba), .val (.ref rb), .val (.long (2251799813685247 : Int64)), .second, .val (.long (w0 &&& (2251799813685247 : Int64))), .second, .unset, .unset, .unset, .unset, .unset, .unset, .unset, .unset, .unset]) (hb hby at_271) rfl rfl ?_
      refine s_lloadN (pc' := 274) X38.here hx (hb hby at_273) rfl rfl ?_
      refine s_bipush (pc' := 276) X38.here hx (v := (51 : Int32)) (hb hby at_274) rfl rfl ?_
      refine s_lushr (pc' := 277) X38.here hx (hb hby at_276) rfl ?_
      refine s_lloadN (pc' := 278) X38.here hx (hb hby at_277) rfl rfl ?_
      refine s_bipush (pc' := 280) X38.here hx (v := (13 : Int32)) (hb hby at_278) rfl rfl ?_
      refine s_lshl (pc' := 281) X38.here hx (hb hby at_280) rfl ?_
      refine s_lor (pc' := 282) X38.here hx (hb hby at_281) rfl ?_
      refine s_lload (pc' := 284) X38.here hx (hb hby at_282) rfl rfl ?_
      refine s_land (pc' := 285) X38.here hx (hb hby at_284) rfl ?_
      refine s_lstore (pc' := 287) X38.here hx (l' := #[.val (.long w0), .second, .val (.long w1), .second, .val (.long w2), .second, .val (.long w3), .second, .val (.long q4), .second, .val (.int p5), .val (.int of), .val (.int ne), .val (.int cc), .val (.ref ba), .val (.ref rb), .val (.long (2251799813685247 : Int64)), .second, .val (.long (w0 &&& (2251799813685247 : Int64))), .second, .val (.long ((((w0.toUInt64 >>> ((51 : Int32) &&& 0x3f).toInt64.toUInt64).toInt64) ||| (w1 <<< ((13 : Int32) &&& 0x3f).toInt64)) &&& (2251799813685247 : Int64))), .second, .unset, .unset, .unset, .unset, .unset, .unset, .unset]) (hb hby at_285) rfl rfl ?_
      refine s_lloadN (pc' := 288) X38.here hx (hb hby at_287) rfl rfl ?_
      refine s_bipush (pc' := 290) X38.here hx (v := (38 : Int32)) (hb hby at_288) rfl rfl ?_
      refine s_lushr (pc' := 291) X38.here hx (hb hby at_290) rfl ?_
      refine s_lload (pc' := 293) X38.here hx (hb hby at_291) rfl rfl ?_
      refine s_bipush (pc' := 295) X38.here hx (v := (26 : Int32)) (hb hby at_293) rfl rfl ?_
      refine s_lshl (pc' := 296) X38.here hx (hb hby at_295) rfl ?_
      refine s_lor (pc' := 297) X38.here hx (hb hby at_296) rfl ?_
      refine s_lload (pc' := 299) X38.here hx (hb hby at_297) rfl rfl ?_
      refine s_land (pc' := 300) X38.here hx (hb hby at_299) rfl ?_
      refine s_lstore (pc' := 302) X38.here hx (l' := #[.val (.long w0), .second, .val (.long w1), .second, .val (.long w2), .second, .val (.long w3), .second, .val (.long q4), .second, .val (.int p5), .val (.int of), .val (.int ne), .val (.int cc), .val (.ref ba), .val (.ref rb), .val (.long (2251799813685247 : Int64)), .second, .val (.long (w0 &&& (2251799813685247 : Int64))), .second, .val (.long ((((w0.toUInt64 >>> ((51 : Int32) &&& 0x3f).toInt64.toUInt64).toInt64) ||| (w1 <<< ((13 : Int32) &&& 0x3f).toInt64)) &&& (2251799813685247 : Int64))), .second, .val (.long ((((w1.toUInt64 >>> ((38 : Int32) &&& 0x3f).toInt64.toUInt64).toInt64) ||| (w2 <<< ((26 : Int32) &&& 0x3f).toInt64)) &&& (2251799813685247 : Int64))), .second, .unset, .unset, .unset, .unset, .unset]) (hb hby at_300) rfl rfl ?_
      refine s_lload (pc' := 304) X38.here hx (hb hby at_302) rfl rfl ?_
      refine s_bipush (pc' := 306) X38.here hx (v := (25 : Int32)) (hb hby at_304) rfl rfl ?_
      refine s_lushr (pc' := 307) X38.here hx (hb hby at_306) rfl ?_
      refine s_lload (pc' := 309) X38.here hx (hb hby at_307) rfl rfl ?_
      refine s_bipush (pc' := 311) X38.here hx (v := (39 : Int32)) (hb hby at_309) rfl rfl ?_
      refine s_lshl (pc' := 312) X38.here hx (hb hby at_311) rfl ?_
      refine s_lor (pc' := 313) X38.here hx (hb hby at_312) rfl ?_
      refine s_lload (pc' := 315) X38.here hx (hb hby at_313) rfl rfl ?_
      refine s_land (pc' := 316) X38.here hx (hb hby at_315) rfl ?_
      refine s_lstore (pc' := 318) X38.here hx (l' := #[.val (.long w0), .second, .val (.long w1), .second, .val (.long w2), .second, .val (.long w3), .second, .val (.long q4), .second, .val (.int p5), .val (.int of), .val (.int ne), .val (.int cc), .val (.ref ba), .val (.ref rb), .val (.long (2251799813685247 : Int64)), .second, .val (.long (w0 &&& (2251799813685247 : Int64))), .second, .val (.long ((((w0.toUInt64 >>> ((51 : Int32) &&& 0x3f).toInt64.toUInt64).toInt64) ||| (w1 <<< ((13 : Int32) &&& 0x3f).toInt64)) &&& (2251799813685247 : Int64))), .second, .val (.long ((((w1.toUInt64 >>> ((38 : Int32) &&& 0x3f).toInt64.toUInt64).toInt64) ||| (w2 <<< ((26 : Int32) &&& 0x3f).toInt64)) &&& (2251799813685247 : Int64))), .second, .val (.long ((((w2.toUInt64 >>> ((25 : Int32) &&& 0x3f).toInt64.toUInt64).toInt64) ||| (w3 <<< ((39 : Int32) &&& 0x3f).toInt64)) &&& (2251799813685247 : Int64))), .second, .unset, .unset, .unset]) (hb hby at_316) rfl rfl ?_
      refine s_lload (pc' := 320) X38.here hx (hb hby at_318) rfl rfl ?_
      refine s_bipush (pc' := 322) X38.here hx (v := (12 : Int32)) (hb hby at_320) rfl rfl ?_
      refine s_lushr (pc' := 323) X38.here hx (hb hby at_322) rfl ?_
      refine s_lload (pc' := 325) X38.here hx (hb hby at_323) rfl rfl ?_
      refine s_land (pc' := 326) X38.here hx (hb hby at_325) rfl ?_
      refine s_lstore (pc' := 328) X38.here hx (l' := #[.val (.long w0), .second, .val (.long w1), .second, .val (.long w2), .second, .val (.long w3), .second, .val (.long q4), .second, .val (.int p5), .val (.int of), .val (.int ne), .val (.int cc), .val (.ref ba), .val (.ref rb), .val (.long (2251799813685247 : Int64)), .second, .val (.long (w0 &&& (2251799813685247 : Int64))), .second, .val (.long ((((w0.toUInt64 >>> ((51 : Int32) &&& 0x3f).toInt64.toUInt64).toInt64) ||| (w1 <<< ((13 : Int32) &&& 0x3f).toInt64)) &&& (2251799813685247 : Int64))), .second, .val (.long ((((w1.toUInt64 >>> ((38 : Int32) &&& 0x3f).toInt64.toUInt64).toInt64) ||| (w2 <<< ((26 : Int32) &&& 0x3f).toInt64)) &&& (2251799813685247 : Int64))), .second, .val (.long ((((w2.toUInt64 >>> ((25 : Int32) &&& 0x3f).toInt64.toUInt64).toInt64) ||| (w3 <<< ((39 : Int32) &&& 0x3f).toInt64)) &&& (2251799813685247 : Int64))), .second, .val (.long (((w3.toUInt64 >>> ((12 : Int32) &&& 0x3f).toInt64.toUInt64).toInt64) &&& (2251799813685247 : Int64))), .second, .unset]) (hb hby at_326) rfl rfl ?_
      refine s_lload (pc' := 330) X38.here hx (hb hby at_328) rfl rfl ?_
      refine s_ldcJ (pc' := 333) X38 hx hZ hown (hw _ (List.mem_of_getElem? (i := 13) rfl)) (hb hby at_330) rfl ?_
      refine s_land (pc' := 334) X38.here hx (hb hby at_333) rfl ?_
      refine s_ldcJ (pc' := 337) X38 hx hZ hown (hw _ (List.mem_of_getElem? (i := 13) rfl)) (hb hby at_334) rfl ?_
      refine s_lcmp (pc' := 338) X38.here hx (hb hby at_337) rfl ?_
      refine own_join (α := Int32) (fun tb => T38.setTop (mkF m 379 #[.val (.long w0), .second, .val (.long w1), .second, .val (.long w2), .second, .val (.long w3), .second, .val (.long q4), .second, .val (.int p5), .val (.int of), .val (.int ne), .val (.int cc), .val (.ref ba), .val (.ref rb), .val (.long (2251799813685247 : Int64)), .second, .val (.long (w0 &&& (2251799813685247 : Int64))), .second, .val (.long ((((w0.toUInt64 >>> ((51 : Int32) &&& 0x3f).toInt64.toUInt64).toInt64) ||| (w1 <<< ((13 : Int32) &&& 0x3f).toInt64)) &&& (2251799813685247 : Int64))), .second, .val (.long ((((w1.toUInt64 >>> ((38 : Int32) &&& 0x3f).toInt64.toUInt64).toInt64) ||| (w2 <<< ((26 : Int32) &&& 0x3f).toInt64)) &&& (2251799813685247 : Int64))), .second, .val (.long ((((w2.toUInt64 >>> ((25 : Int32) &&& 0x3f).toInt64.toUInt64).toInt64) ||| (w3 <<< ((39 : Int32) &&& 0x3f).toInt64)) &&& (2251799813685247 : Int64))), .second, .val (.long (((w3.toUInt64 >>> ((12 : Int32) &&& 0x3f).toInt64.toUInt64).toInt64) &&& (2251799813685247 : Int64))), .second, .val (.int tb)] [])) (fun tb => tb = 0) (fun key => ?_) ?_
      · by_cases t0 : (w3 &&& (9223372036854775807 : Int64)) = (9223372036854775807 : Int64)
        · refine s_ifNo (pc' := 341) X38.here hx (hb hby at_338) ((if0 _ _).trans (teq ((lw_eq (w3 &&& (9223372036854775807 : Int64)) (9223372036854775807 : Int64)).mpr t0)).2) rfl ?_
          refine s_lload (pc' := 343) X38.here hx (hb hby at_341) rfl rfl ?_
          refine s_ldcJ (pc' := 346) X38 hx hZ hown (hw _ (List.mem_of_getElem? (i := 15) rfl)) (hb hby at_343) rfl ?_
          refine s_lcmp (pc' := 347) X38.here hx (hb hby at_346) rfl ?_
          by_cases t1 : w2 = (-1 : Int64)
          · refine s_ifNo (pc' := 350) X38.here hx (hb hby at_347) ((if0 _ _).trans (teq ((lw_eq w2 (-1 : Int64)).mpr t1)).2) rfl ?_
            refine s_lloadN (pc' := 351) X38.here hx (hb hby at_350) rfl rfl ?_
            refine s_ldcJ (pc' := 354) X38 hx hZ hown (hw _ (List.mem_of_getElem? (i := 15) rfl)) (hb hby at_351) rfl ?_
            refine s_lcmp (pc' := 355) X38.here hx (hb hby at_354) rfl ?_
            by_cases t2 : w1 = (-1 : Int64)
            · refine s_ifNo (pc' := 358) X38.here hx (hb hby at_355) ((if0 _ _).trans (teq ((lw_eq w1 (-1 : Int64)).mpr t2)).2) rfl ?_
              refine s_lloadN (pc' := 359) X38.here hx (hb hby at_358) rfl rfl ?_
              refine s_lconst (pc' := 360) X38.here hx (v := (0 : Int64)) (hb hby at_359) rfl rfl ?_
              refine s_lcmp (pc' := 361) X38.here hx (hb hby at_360) rfl ?_
              by_cases t3 : w0 < (0 : Int64)
              · refine s_ifNo (pc' := 364) X38.here hx (hb hby at_361) ((if0 _ _).trans (tlt ((lw_lt w0 (0 : Int64)).mpr t3)).2.1) rfl ?_
                refine s_lloadN (pc' := 365) X38.here hx (hb hby at_364) rfl rfl ?_
                refine s_ldcJ (pc' := 368) X38 hx hZ hown (hw _ (List.mem_of_getElem? (i := 16) rfl)) (hb hby at_365) rfl ?_
                refine s_lcmp (pc' := 369) X38.here hx (hb hby at_368) rfl ?_
                by_cases t4 : w0 < (-19 : Int64)
                · refine s_ifYes (pc' := 376) X38.here hx (hb hby at_369) ((if0 _ _).trans (tlt ((lw_lt w0 (-19 : Int64)).mpr t4)).1) (by decide) (by decide) ?_
                  refine s_iconst (pc' := 377) X38.here hx (v := (0 : Int32)) (hb hby at_376) rfl rfl ?_
                  refine s_istore (pc' := 379) X38.here hx (l' := #[.val (.long w0), .second, .val (.long w1), .second, .val (.long w2), .second, .val (.long w3), .second, .val (.long q4), .second, .val (.int p5), .val (.int of), .val (.int ne), .val (.int cc), .val (.ref ba), .val (.ref rb), .val (.long (2251799813685247 : Int64)), .second, .val (.long (w0 &&& (2251799813685247 : Int64))), .second, .val (.long ((((w0.toUInt64 >>> ((51 : Int32) &&& 0x3f).toInt64.toUInt64).toInt64) ||| (w1 <<< ((13 : Int32) &&& 0x3f).toInt64)) &&& (2251799813685247 : Int64))), .second, .val (.long ((((w1.toUInt64 >>> ((38 : Int32) &&& 0x3f).toInt64.toUInt64).toInt64) ||| (w2 <<< ((26 : Int32) &&& 0x3f).toInt64)) &&& (2251799813685247 : Int64))), .second, .val (.long ((((w2.toUInt64 >>> ((25 : Int32) &&& 0x3f).toInt64.toUInt64).toInt64) ||| (w3 <<< ((39 : Int32) &&& 0x3f).toInt64)) &&& (2251799813685247 : Int64))), .second, .val (.long (((w3.toUInt64 >>> ((12 : Int32) &&& 0x3f).toInt64.toUInt64).toInt64) &&& (2251799813685247 : Int64))), .second, .val (.int (0 : Int32))]) (hb hby at_377) rfl rfl ?_
                  exact key ((0 : Int32)) rfl
                · refine s_ifNo (pc' := 372) X38.here hx (hb hby at_369) ((if0 _ _).trans (flt (fun q_ => t4 ((lw_lt w0 (-19 : Int64)).mp q_))).1) rfl ?_
                  exact absurd ((own_big w0 w1 w2 w3).mpr ⟨t0, t1, t2, t3, t4⟩) hB
              · refine s_ifYes (pc' := 376) X38.here hx (hb hby at_361) ((if0 _ _).trans (flt (fun q_ => t3 ((lw_lt w0 (0 : Int64)).mp q_))).2.1) (by decide) (by decide) ?_
                refine s_iconst (pc' := 377) X38.here hx (v := (0 : Int32)) (hb hby at_376) rfl rfl ?_
                refine s_istore (pc' := 379) X38.here hx (l' := #[.val (.long w0), .second, .val (.long w1), .second, .val (.long w2), .second, .val (.long w3), .second, .val (.long q4), .second, .val (.int p5), .val (.int of), .val (.int ne), .val (.int cc), .val (.ref ba), .val (.ref rb), .val (.long (2251799813685247 : Int64)), .second, .val (.long (w0 &&& (2251799813685247 : Int64))), .second, .val (.long ((((w0.toUInt64 >>> ((51 : Int32) &&& 0x3f).toInt64.toUInt64).toInt64) ||| (w1 <<< ((13 : Int32) &&& 0x3f).toInt64)) &&& (2251799813685247 : Int64))), .second, .val (.long ((((w1.toUInt64 >>> ((38 : Int32) &&& 0x3f).toInt64.toUInt64).toInt64) ||| (w2 <<< ((26 : Int32) &&& 0x3f).toInt64)) &&& (2251799813685247 : Int64))), .second, .val (.long ((((w2.toUInt64 >>> ((25 : Int32) &&& 0x3f).toInt64.toUInt64).toInt64) ||| (w3 <<< ((39 : Int32) &&& 0x3f).toInt64)) &&& (2251799813685247 : Int64))), .second, .val (.long (((w3.toUInt64 >>> ((12 : Int32) &&& 0x3f).toInt64.toUInt64).toInt64) &&& (2251799813685247 : Int64))), .second, .val (.int (0 : Int32))]) (hb hby at_377) rfl rfl ?_
                exact key ((0 : Int32)) rfl
            · refine s_ifYes (pc' := 376) X38.here hx (hb hby at_355) ((if0 _ _).trans (feq (fun q_ => t2 ((lw_eq w1 (-1 : Int64)).mp q_))).2) (by decide) (by decide) ?_
              refine s_iconst (pc' := 377) X38.here hx (v := (0 : Int32)) (hb hby at_376) rfl rfl ?_
              refine s_istore (pc' := 379) X38.here hx (l' := #[.val (.long w0), .second, .val (.long w1), .second, .val (.long w2), .second, .val (.long w3), .second, .val (.long q4), .second, .val (.int p5), .val (.int of), .val (.int ne), .val (.int cc), .val (.ref ba), .val (.ref rb), .val (.long (2251799813685247 : Int64)), .second, .val (.long (w0 &&& (2251799813685247 : Int64))), .second, .val (.long ((((w0.toUInt64 >>> ((51 : Int32) &&& 0x3f).toInt64.toUInt64).toInt64) ||| (w1 <<< ((13 : Int32) &&& 0x3f).toInt64)) &&& (2251799813685247 : Int64))), .second, .val (.long ((((w1.toUInt64 >>> ((38 : Int32) &&& 0x3f).toInt64.toUInt64).toInt64) ||| (w2 <<< ((26 : Int32) &&& 0x3f).toInt64)) &&& (2251799813685247 : Int64))), .second, .val (.long ((((w2.toUInt64 >>> ((25 : Int32) &&& 0x3f).toInt64.toUInt64).toInt64) ||| (w3 <<< ((39 : Int32) &&& 0x3f).toInt64)) &&& (2251799813685247 : Int64))), .second, .val (.long (((w3.toUInt64 >>> ((12 : Int32) &&& 0x3f).toInt64.toUInt64).toInt64) &&& (2251799813685247 : Int64))), .second, .val (.int (0 : Int32))]) (hb hby at_377) rfl rfl ?_
              exact key ((0 : Int32)) rfl
          · refine s_ifYes (pc' := 376) X38.here hx (hb hby at_347) ((if0 _ _).trans (feq (fun q_ => t1 ((lw_eq w2 (-1 : Int64)).mp q_))).2) (by decide) (by decide) ?_
            refine s_iconst (pc' := 377) X38.here hx (v := (0 : Int32)) (hb hby at_376) rfl rfl ?_
            refine s_istore (pc' := 379) X38.here hx (l' := #[.val (.long w0), .second, .val (.long w1), .second, .val (.long w2), .second, .val (.long w3), .second, .val (.long q4), .second, .val (.int p5), .val (.int of), .val (.int ne), .val (.int cc), .val (.ref ba), .val (.ref rb), .val (.long (2251799813685247 : Int64)), .second, .val (.long (w0 &&& (2251799813685247 : Int64))), .second, .val (.long ((((w0.toUInt64 >>> ((51 : Int32) &&& 0x3f).toInt64.toUInt64).toInt64) ||| (w1 <<< ((13 : Int32) &&& 0x3f).toInt64)) &&& (2251799813685247 : Int64))), .second, .val (.long ((((w1.toUInt64 >>> ((38 : Int32) &&& 0x3f).toInt64.toUInt64).toInt64) ||| (w2 <<< ((26 : Int32) &&& 0x3f).toInt64)) &&& (2251799813685247 : Int64))), .second, .val (.long ((((w2.toUInt64 >>> ((25 : Int32) &&& 0x3f).toInt64.toUInt64).toInt64) ||| (w3 <<< ((39 : Int32) &&& 0x3f).toInt64)) &&& (2251799813685247 : Int64))), .second, .val (.long (((w3.toUInt64 >>> ((12 : Int32) &&& 0x3f).toInt64.toUInt64).toInt64) &&& (2251799813685247 : Int64))), .second, .val (.int (0 : Int32))]) (hb hby at_377) rfl rfl ?_
            exact key ((0 : Int32)) rfl
        · refine s_ifYes (pc' := 376) X38.here hx (hb hby at_338) ((if0 _ _).trans (feq (fun q_ => t0 ((lw_eq (w3 &&& (9223372036854775807 : Int64)) (9223372036854775807 : Int64)).mp q_))).2) (by decide) (by decide) ?_
          refine s_iconst (pc' := 377) X38.here hx (v := (0 : Int32)) (hb hby at_376) rfl rfl ?_
          refine s_istore (pc' := 379) X38.here hx (l' := #[.val (.long w0), .second, .val (.long w1), .second, .val (.long w2), .second, .val (.long w3), .second, .val (.long q4), .second, .val (.int p5), .val (.int of), .val (.int ne), .val (.int cc), .val (.ref ba), .val (.ref rb), .val (.long (2251799813685247 : Int64)), .second, .val (.long (w0 &&& (2251799813685247 : Int64))), .second, .val (.long ((((w0.toUInt64 >>> ((51 : Int32) &&& 0x3f).toInt64.toUInt64).toInt64) ||| (w1 <<< ((13 : Int32) &&& 0x3f).toInt64)) &&& (2251799813685247 : Int64))), .second, .val (.long ((((w1.toUInt64 >>> ((38 : Int32) &&& 0x3f).toInt64.toUInt64).toInt64) ||| (w2 <<< ((26 : Int32) &&& 0x3f).toInt64)) &&& (2251799813685247 : Int64))), .second, .val (.long ((((w2.toUInt64 >>> ((25 : Int32) &&& 0x3f).toInt64.toUInt64).toInt64) ||| (w3 <<< ((39 : Int32) &&& 0x3f).toInt64)) &&& (2251799813685247 : Int64))), .second, .val (.long (((w3.toUInt64 >>> ((12 : Int32) &&& 0x3f).toInt64.toUInt64).toInt64) &&& (2251799813685247 : Int64))), .second, .val (.int (0 : Int32))]) (hb hby at_377) rfl rfl ?_
          exact key ((0 : Int32)) rfl
      · rintro tb htb
        try dsimp only at htb
        try dsimp only
        show Ends p.tables e below (T38.setTop (mkF m 379 #[.val (.long w0), .second, .val (.long w1), .second, .val (.long w2), .second, .val (.long w3), .second, .val (.long q4), .second, .val (.int p5), .val (.int of), .val (.int ne), .val (.int cc), .val (.ref ba), .val (.ref rb), .val (.long (2251799813685247 : Int64)), .second, .val (.long (w0 &&& (2251799813685247 : Int64))), .second, .val (.long ((((w0.toUInt64 >>> ((51 : Int32) &&& 0x3f).toInt64.toUInt64).toInt64) ||| (w1 <<< ((13 : Int32) &&& 0x3f).toInt64)) &&& (2251799813685247 : Int64))), .second, .val (.long ((((w1.toUInt64 >>> ((38 : Int32) &&& 0x3f).toInt64.toUInt64).toInt64) ||| (w2 <<< ((26 : Int32) &&& 0x3f).toInt64)) &&& (2251799813685247 : Int64))), .second, .val (.long ((((w2.toUInt64 >>> ((25 : Int32) &&& 0x3f).toInt64.toUInt64).toInt64) ||| (w3 <<< ((39 : Int32) &&& 0x3f).toInt64)) &&& (2251799813685247 : Int64))), .second, .val (.long (((w3.toUInt64 >>> ((12 : Int32) &&& 0x3f).toInt64.toUInt64).toInt64) &&& (2251799813685247 : Int64))), .second, .val (.int tb)] [])) _
        refine s_iload (pc' := 381) X38.here hx (hb hby at_379) rfl rfl ?_
        have hk48 : tb = (0 : Int32) := htb
        refine s_ifYes (pc' := 395) X38.here hx (hb hby at_381) ((if0 _ _).trans (teq hk48).1) (by decide) (by decide) ?_
        refine s_aload (pc' := 397) X38.here hx (hb hby at_395) rfl rfl rfl ?_
        refine s_ifnullNo (pc' := 400) X38.here hx (hb hby at_397) rfl ?_
        refine s_aload (pc' := 402) X38.here hx (hb hby at_400) rfl rfl rfl ?_
        refine s_arraylength (pc' := 403) X38 hx hZ rfl Vr (hb hby at_402) rfl ?_
        refine s_iconst (pc' := 404) X38.here hx (v := (5 : Int32)) (hb hby at_403) rfl rfl ?_
        have hk49 : (5 : Int32) = (5 : Int32) := rfl
        refine s_icmpNo (pc' := 407) X38.here hx (hb hby at_404) (teq hk49).2 rfl ?_
        refine s_aload (pc' := 409) X38.here hx (hb hby at_407) rfl rfl rfl ?_
        refine s_iconst (pc' := 410) X38.here hx (v := (0 : Int32)) (hb hby at_409) rfl rfl ?_
        refine s_laload (pc' := 411) (v := (.long (own_e0 w0))) X38 hx hZ rfl Vr ⟨by decide, by decide⟩ rfl (hb hby at_410) rfl ?_
        refine s_lload (pc' := 413) X38.here hx (hb hby at_411) rfl rfl ?_
        refine s_lcmp (pc' := 414) X38.here hx (hb hby at_413) rfl ?_
        have hk50 : (own_e0 w0) = (w0 &&& (2251799813685247 : Int64)) := rfl
        refine s_ifNo (pc' := 417) X38.here hx (hb hby at_414) ((if0 _ _).trans (teq ((lw_eq (own_e0 w0) (w0 &&& (2251799813685247 : Int64))).mpr hk50)).2) rfl ?_
        refine s_aload (pc' := 419) X38.here hx (hb hby at_417) rfl rfl rfl ?_
        refine s_iconst (pc' := 420) X38.here hx (v := (1 : Int32)) (hb hby at_419) rfl rfl ?_
        refine s_laload (pc' := 421) (v := (.long (own_e1 w0 w1))) X38 hx hZ rfl Vr ⟨by decide, by decide⟩ rfl (hb hby at_420) rfl ?_
        refine s_lload (pc' := 423) X38.here hx (hb hby at_421) rfl rfl ?_
        refine s_lcmp (pc' := 424) X38.here hx (hb hby at_423) rfl ?_
        have hk51 : (own_e1 w0 w1) = ((((w0.toUInt64 >>> ((51 : Int32) &&& 0x3f).toInt64.toUInt64).toInt64) ||| (w1 <<< ((13 : Int32) &&& 0x3f).toInt64)) &&& (2251799813685247 : Int64)) := rfl
        refine s_ifNo (pc' := 427) X38.here hx (hb hby at_424) ((if0 _ _).trans (teq ((lw_eq (own_e1 w0 w1) ((((w0.toUInt64 >>> ((51 : Int32) &&& 0x3f).toInt64.toUInt64).toInt64) ||| (w1 <<< ((13 : Int32) &&& 0x3f).toInt64)) &&& (2251799813685247 : Int64))).mpr hk51)).2) rfl ?_
        refine s_aload (pc' := 429) X38.here hx (hb hby at_427) rfl rfl rfl ?_
        refine s_iconst (pc' := 430) X38.here hx (v := (2 : Int32)) (hb hby at_429) rfl rfl ?_
        refine s_laload (pc' := 431) (v := (.long (own_e2 w1 w2))) X38 hx hZ rfl Vr ⟨by decide, by decide⟩ rfl (hb hby at_430) rfl ?_
        refine s_lload (pc' := 433) X38.here hx (hb hby at_431) rfl rfl ?_
        refine s_lcmp (pc' := 434) X38.here hx (hb hby at_433) rfl ?_
        have hk52 : (own_e2 w1 w2) = ((((w1.toUInt64 >>> ((38 : Int32) &&& 0x3f).toInt64.toUInt64).toInt64) ||| (w2 <<< ((26 : Int32) &&& 0x3f).toInt64)) &&& (2251799813685247 : Int64)) := rfl
        refine s_ifNo (pc' := 437) X38.here hx (hb hby at_434) ((if0 _ _).trans (teq ((lw_eq (own_e2 w1 w2) ((((w1.toUInt64 >>> ((38 : Int32) &&& 0x3f).toInt64.toUInt64).toInt64) ||| (w2 <<< ((26 : Int32) &&& 0x3f).toInt64)) &&& (2251799813685247 : Int64))).mpr hk52)).2) rfl ?_
        refine s_aload (pc' := 439) X38.here hx (hb hby at_437) rfl rfl rfl ?_
        refine s_iconst (pc' := 440) X38.here hx (v := (3 : Int32)) (hb hby at_439) rfl rfl ?_
        refine s_laload (pc' := 441) (v := (.long (own_e3 w2 w3))) X38 hx hZ rfl Vr ⟨by decide, by decide⟩ rfl (hb hby at_440) rfl ?_
        refine s_lload (pc' := 443) X38.here hx (hb hby at_441) rfl rfl ?_
        refine s_lcmp (pc' := 444) X38.here hx (hb hby at_443) rfl ?_
        have hk53 : (own_e3 w2 w3) = ((((w2.toUInt64 >>> ((25 : Int32) &&& 0x3f).toInt64.toUInt64).toInt64) ||| (w3 <<< ((39 : Int32) &&& 0x3f).toInt64)) &&& (2251799813685247 : Int64)) := rfl
        refine s_ifNo (pc' := 447) X38.here hx (hb hby at_444) ((if0 _ _).trans (teq ((lw_eq (own_e3 w2 w3) ((((w2.toUInt64 >>> ((25 : Int32) &&& 0x3f).toInt64.toUInt64).toInt64) ||| (w3 <<< ((39 : Int32) &&& 0x3f).toInt64)) &&& (2251799813685247 : Int64))).mpr hk53)).2) rfl ?_
        refine s_aload (pc' := 449) X38.here hx (hb hby at_447) rfl rfl rfl ?_
        refine s_iconst (pc' := 450) X38.here hx (v := (4 : Int32)) (hb hby at_449) rfl rfl ?_
        refine s_laload (pc' := 451) (v := (.long (own_e4 w3))) X38 hx hZ rfl Vr ⟨by decide, by decide⟩ rfl (hb hby at_450) rfl ?_
        refine s_lload (pc' := 453) X38.here hx (hb hby at_451) rfl rfl ?_
        refine s_lcmp (pc' := 454) X38.here hx (hb hby at_453) rfl ?_
        have hk54 : (own_e4 w3) = (((w3.toUInt64 >>> ((12 : Int32) &&& 0x3f).toInt64.toUInt64).toInt64) &&& (2251799813685247 : Int64)) := rfl
        refine s_ifNo (pc' := 457) X38.here hx (hb hby at_454) ((if0 _ _).trans (teq ((lw_eq (own_e4 w3) (((w3.toUInt64 >>> ((12 : Int32) &&& 0x3f).toInt64.toUInt64).toInt64) &&& (2251799813685247 : Int64))).mpr hk54)).2) rfl ?_
        refine s_iconst (pc' := 458) X38.here hx (v := (1 : Int32)) (hb hby at_457) rfl rfl ?_
        refine s_goto (pc' := 462) X38.here hx (hb hby at_458) (by decide) (by decide) ?_
        obtain ⟨fs, hr, hrun, hended, hW, hsame⟩ := X38.leave (v := some (.int (1 : Int32))) (fun h => by rw [Bd.returns] at h; cases h)
        refine ⟨_, _, retN X38 hx (t := .boolean) Bd.returns (by simp) (hb hby at_462) hr, hrun, hended, _, _, rfl, ?_, ⟨_, rfl⟩, hW, hsame.mono (by decide) (by decide)⟩
        show own_rm0_Q Z q0 q1 q2 q3 q4 p5 h0 n0 _ T38.heap _
        exact ⟨rfl, N38⟩
set_option maxRecDepth 65536 in
set_option maxHeartbeats 40000000 in
theorem comes_1 {Post : Tables → Env → Array Value → State → Outcome → State → Prop} (hpost : ∀ tb e args s v u, (limb_1_1.after args s (.returned v) u = true ∧ limb_1_2.after args s (.returned v) u = true ∧ True) → FrameEnd s (.returned v) u (Jvm.fieldLocs frame_1_writes args s ++ Jvm.arrayLocs frame_1_arrays args s ++ Jvm.staticLocs frame_1_statics s) 16 192 → Post tb e args s (.returned v) u) :
    ArmFor flags0 classFile x code maxLocals ret World_1 tables_1 room_1 Calls_1 rest_1 Pre_1 Post := by
  intro l hfl _ _ p e ha hc hk s m args below hf hA hF happ hP
  obtain ⟨hcalls, hrest, hpre⟩ := hP
  obtain ⟨-, -, -, hnamed, -, -, -, hat⟩ := (Spec.applies_iff hf).mp happ
  obtain ⟨hg, hn⟩ := and_e (Cond.before_iff.mp (show (Jvm.Cond.and given_1 narrow_1).before args s = true from hpre))
  obtain ⟨gg2, gg3⟩ := and_e hg
  obtain ⟨gg4, gg5⟩ := and_e gg3
  obtain ⟨gg6, gg7⟩ := and_e gg5
  obtain ⟨gg8, gg9⟩ := and_e gg7
  obtain ⟨gg10, gg11⟩ := and_e gg9
  obtain ⟨gg12, gg13⟩ := and_e gg11
  obtain ⟨w0, w1, w2, w3, w4, w5, rfl⟩ : ∃ w0 w1 w2 w3 w4 w5 : Value, args = #[w0, w1, w2, w3, w4, w5] := by
    have hs : args.size = 6 := by simpa [Cond.value, given_1] using gg2
    obtain ⟨L⟩ := args
    match L, hs with
    | [w0, w1, w2, w3, w4, w5], _ => exact ⟨w0, w1, w2, w3, w4, w5, rfl⟩
  have hw := fun d (hd : d ∈ tables_1) => atoms_spec (ws := Jvm.Cond.code x code maxLocals ret :: tables_1) hat d (List.mem_cons_of_mem _ hd)
  have hfit : Fit s := fun {y c} hc i hi => by
    obtain ⟨ha, rfl⟩ := Array.getElem?_eq_some_iff.mp hc
    have q := List.all_eq_true.mp ((Array.all_eq_true_iff_forall_mem.mp hF) _ (Array.getElem_mem ha)) i (List.mem_range.mpr hi)
    simpa [Array.getElem?_eq_getElem hi] using q
  obtain ⟨i0, ei0⟩ := isL_v gg4
  obtain rfl : w0 = (.long i0) := Option.some.inj ei0
  obtain ⟨i1, ei1⟩ := isL_v gg6
  obtain rfl : w1 = (.long i1) := Option.some.inj ei1
  obtain ⟨i2, ei2⟩ := isL_v gg8
  obtain rfl : w2 = (.long i2) := Option.some.inj ei2
  obtain ⟨i3, ei3⟩ := isL_v gg10
  obtain rfl : w3 = (.long i3) := Option.some.inj ei3
  obtain ⟨i4, ei4⟩ := isL_v gg12
  obtain rfl : w4 = (.long i4) := Option.some.inj ei4
  obtain ⟨i5, ei5⟩ := is_v gg13
  obtain rfl : w5 = (.int i5) := Option.some.inj ei5
  obtain ⟨n, o, h1, h2, h3, _, L, rfl, ⟨rfl, N⟩, hq⟩ := own_rm0 l s _ hw tables_1 i0 i1 i2 i3 i4 i5 s.heap s.heap.size (Nat.le_refl _) p e ha hc hk s m _ below hf ((Spec.applies_iff_loose hf).mp happ).1 ⟨rfl, State.Warmed39.refl s, rfl⟩ trivial
  refine ⟨n, _, h1, h2, h3, hpost _ _ _ _ _ _ ⟨Cond.after_iff.mpr rfl, Cond.after_iff.mpr (eq_i res_at (Term.int_eval (1)) rfl), trivial⟩ ⟨hq.1, hq.2.1, (hq.2.2.sift fun y hy => Or.inr (N y hy)).mono (by decide) (by decide)⟩⟩
theorem main_1_1 : Claimed_1_1 := comes_1 fun _ _ _ _ _ _ h hF => ⟨h.1, hF⟩
theorem main_1_2 : Claimed_1_2 := comes_1 fun _ _ _ _ _ _ h hF => ⟨h.2.1, hF⟩
end Jvm.Pilot.@@N@@
namespace Jvm.Pilot.@@N@@
open Jvm Jvm.ClassFile Sem Op Lib Jvm.Free Jvm.Stand Jvm.Pilot.@@N@@.Jvm.D
/-! MADE BY PROGRAM (witnessworld.py) out of the Statement's table words and the real class files: 11 classes; the members and pool entries that the words name. The judged class is class 1, her method 2. -/
namespace start1
open Jvm.ClassFile
def u (s : String) : CpInfo := .utf8 (stringToUtf16 s)
/-- a pool by its gaps: so many unusable entries, then the entry; so many at the end -/
def gap : Nat → List CpInfo → List CpInfo
  | 0, r => r
  | n + 1, r => .unusable :: gap n r
def poolList (es : List (Nat × CpInfo)) (last : Nat) : List CpInfo := es.foldr (fun e r => gap e.1 (e.2 :: r)) (gap last [])
def pool (es : List (Nat × CpInfo)) (last : Nat) : Array CpInfo := ⟨poolList es last⟩
def fileOf (pool : Array CpInfo) (this : Nat) (attrs : Array Attribute := #[]) (ms : Array MethodInfo := #[]) (fl : Nat := 33) (sup : Nat := 0) (ifs : Array Nat := #[]) (fds : Array FieldInfo := #[]) : ClassFile where
  minorVersion := 0
  majorVersion := 65
  constantPool := pool
  accessFlags := fl
  thisClass := this
  superClass := sup
  interfaces := ifs
  fields := fds
  methods := ms
  attributes := attrs
def plain (name : String) (sup : Option ClassId) : Class where
  name := name
  kind := .ordinary
  loader := none
  accessFlags := 33
  super := sup
  interfaces := #[]
  cf := none
  fields := #[]
  methods := #[]
  instanceTypes := #[]
  staticTypes := #[]
  resolved := #[]
  callSites := []
  init := .initialized
  statics := none
  mirror := none

def pool0 : Array CpInfo := pool [(5, u "<init>"), (0, u "()V"), (1, .class_ 10), (1, u "java/lang/Object")] 113

def k0m0 : Method := { name := "<init>", desc := "()V", sig := { parameters := [], returnType := none }, accessFlags := 1, code := none }
/-- java/lang/Object -/
def k0 : Class := { plain "java/lang/Object" none with
  accessFlags := 33
  interfaces := #[]
  cf := some (fileOf pool0 8 #[] #[{ accessFlags := 1, nameIndex := 5, descriptorIndex := 6, attributes := #[] }] 33 0 #[] #[])
  fields := #[]
  methods := #[k0m0]
  instanceTypes := #[]
  staticTypes := #[]
  resolved := Array.replicate 124 none
  statics := none }

def pool1 : Array CpInfo := pool [(2, .class_ 4), (1, u "java/lang/Object"), (0, u "<init>"), (0, u "()V"), (0, .long 18446744073709551584), (1, .long 18446744073709551615), (3, .long 9223372036854775807), (1, .methodref 16 17), (0, .class_ 18), (0, .nameAndType 19 20), (0, u "io/github/keyhold/core/Ed25519FieldFromBytesPinLaw"), (0, u "put"), (0, u "([BIJ)V"), (0, .methodref 22 23), (0, .class_ 24), (0, .nameAndType 25 26), (0, u "io/github/keyhold/core/Ed25519Field"), (0, u "fromBytes"), (0, u "([BI)[J"), (0, .long 2251799813685247), (1, .long 18446744073709551597), (3, u "law"), (0, u "(JJJJJI)Z")] 7

def k1m0 : Method := { name := "<init>", desc := "()V", sig := { parameters := [], returnType := none }, accessFlags := 2, code := none }
def k1c1 : Code := { maxStack := 5, maxLocals := 4, code := method_2_code, exceptionTable := #[], attributes := #[] }
def k1m1 : Method := { name := "put", desc := "([BIJ)V", sig := { parameters := [(.array .byte), .int, .long], returnType := none }, accessFlags := 10, code := some k1c1 }
def k1c2 : Code := { maxStack := 6, maxLocals := 29, code := code, exceptionTable := #[], attributes := #[] }
def k1m2 : Method := { name := "law", desc := "(JJJJJI)Z", sig := { parameters := [.long, .long, .long, .long, .long, .int], returnType := some .boolean }, accessFlags := 9, code := some k1c2 }
/-- io/github/keyhold/core/Ed25519FieldFromBytesPinLaw -/
def k1 : Class := { plain "io/github/keyhold/core/Ed25519FieldFromBytesPinLaw" (some 0) with
  accessFlags := 49
  interfaces := #[]
  cf := some (fileOf pool1 16 #[] #[{ accessFlags := 2, nameIndex := 5, descriptorIndex := 6, attributes := #[] }, { accessFlags := 10, nameIndex := 19, descriptorIndex := 20, attributes := #[] }, { accessFlags := 9, nameIndex := 33, descriptorIndex := 34, attributes := #[] }] 49 2 #[] #[])
  fields := #[]
  methods := #[k1m0, k1m1, k1m2]
  instanceTypes := #[]
  staticTypes := #[]
  resolved := Array.replicate 42 none
  statics := none }

def pool2 : Array CpInfo := pool [(1, .class_ 2), (0, u "io/github/keyhold/core/Ed25519Field"), (1, .class_ 6), (1, u "java/lang/Object"), (0, u "<init>"), (0, u "()V"), (10, .long 2251799813685247), (8, u "Ljava/math/BigInteger;"), (11, .long 2251799813685229), (21, u "P4"), (0, u "[J"), (37, u "P"), (4, u "LIMBS"), (0, u "I"), (2, u "BITS"), (1, u "MASK"), (0, u "J"), (8, u "fromBytes"), (0, u "([BI)[J")] 13

def k2m0 : Method := { name := "<init>", desc := "()V", sig := { parameters := [], returnType := none }, accessFlags := 2, code := none }
def k2c1 : Code := { maxStack := 9, maxLocals := 6, code := prog_11_method_4_code, exceptionTable := #[], attributes := #[] }
def k2m1 : Method := { name := "fromBytes", desc := "([BI)[J", sig := { parameters := [(.array .byte), .int], returnType := some (.array .long) }, accessFlags := 8, code := some k2c1 }
/-- io/github/keyhold/core/Ed25519Field -/
def k2 : Class := { plain "io/github/keyhold/core/Ed25519Field" (some 0) with
  accessFlags := 48
  interfaces := #[]
  cf := some (fileOf pool2 1 #[] #[{ accessFlags := 2, nameIndex := 7, descriptorIndex := 8, attributes := #[] }, { accessFlags := 8, nameIndex := 122, descriptorIndex := 123, attributes := #[] }] 48 4 #[] #[{ accessFlags := 24, nameIndex := 101, descriptorIndex := 28, attributes := #[] }, { accessFlags := 24, nameIndex := 106, descriptorIndex := 107, attributes := #[] }, { accessFlags := 26, nameIndex := 110, descriptorIndex := 107, attributes := #[] }, { accessFlags := 26, nameIndex := 112, descriptorIndex := 113, attributes := #[] }, { accessFlags := 26, nameIndex := 62, descriptorIndex := 63, attributes := #[] }])
  fields := #[{ name := "P", type := (.object "java/math/BigInteger"), accessFlags := 24, slot := 0, constantValue := 0 }, { name := "LIMBS", type := .int, accessFlags := 24, slot := 1, constantValue := 0 }, { name := "BITS", type := .int, accessFlags := 26, slot := 2, constantValue := 0 }, { name := "MASK", type := .long, accessFlags := 26, slot := 3, constantValue := 0 }, { name := "P4", type := (.array .long), accessFlags := 26, slot := 4, constantValue := 0 }]
  methods := #[k2m0, k2m1]
  instanceTypes := #[]
  staticTypes := #[(.object "java/math/BigInteger"), .int, .int, .long, (.array .long)]
  resolved := Array.replicate 137 none
  statics := none }

def pool3 : Array CpInfo := pool [(1, u "java/lang/Cloneable"), (0, .class_ 1), (0, u "java/lang/Object"), (0, .class_ 3)] 3

/-- java/lang/Cloneable -/
def k3 : Class := { plain "java/lang/Cloneable" (some 0) with
  accessFlags := 1537
  interfaces := #[]
  cf := some (fileOf pool3 2 #[] #[] 1537 4 #[] #[])
  fields := #[]
  methods := #[]
  instanceTypes := #[]
  staticTypes := #[]
  resolved := Array.replicate 8 none
  statics := none }

def pool4 : Array CpInfo := pool [(1, u "java/io/Serializable"), (0, .class_ 1), (0, u "java/lang/Object"), (0, .class_ 3)] 3

/-- java/io/Serializable -/
def k4 : Class := { plain "java/io/Serializable" (some 0) with
  accessFlags := 1537
  interfaces := #[]
  cf := some (fileOf pool4 2 #[] #[] 1537 4 #[] #[])
  fields := #[]
  methods := #[]
  instanceTypes := #[]
  staticTypes := #[]
  resolved := Array.replicate 8 none
  statics := none }

/-- the primitive byte -/
def k5 : Class := { plain "byte" none with kind := .primitive 'B', accessFlags := 0x411 }
/-- [B -/
def k6 : Class := { plain "[B" (some 0) with kind := .array 5 .byte, interfaces := #[3, 4], accessFlags := 1041 }

/-- the primitive int -/
def k7 : Class := { plain "int" none with kind := .primitive 'I', accessFlags := 0x411 }
/-- [I -/
def k8 : Class := { plain "[I" (some 0) with kind := .array 7 .int, interfaces := #[3, 4], accessFlags := 1041 }

/-- the primitive long -/
def k9 : Class := { plain "long" none with kind := .primitive 'J', accessFlags := 0x411 }
/-- [J -/
def k10 : Class := { plain "[J" (some 0) with kind := .array 9 .long, interfaces := #[3, 4], accessFlags := 1041 }

def heap : Heap := #[]
def classes : Array Class := #[k0, k1, k2, k3, k4, k5, k6, k7, k8, k9, k10]
def interned : List (Array UInt16 × Addr) := []
def slotsUsed : Nat := 0
def theMethod : MethodId := ⟨1, 2⟩
def args0 : Array Value := #[.long 0, .long 1, .long 2, .long 3, .long 4, .int 3]
def aboutOver (below : List Frame) : State where
  vm := { classes := classes, interned := interned.toArray }
  heap := heap
  slotsUsed := slotsUsed
  threads := #[{ frames := .invoking theMethod args0 :: below }]
def below0 : List Frame := [.native { method := ⟨0, 0⟩, args := #[] }]
def about1 : State := aboutOver below0
def p0 : Program := .bare "" "" ""
def e0 : Env := launch0.env 0 0 0
theorem w_frames : about1.frames = Frame.invoking theMethod args0 :: below0 := rfl
set_option maxRecDepth 65536 in
theorem w_args : argsFit about1.vm theMethod args0 = true := by decide +kernel
set_option maxRecDepth 65536 in
theorem w_heap : heapFits about1 = true := by decide +kernel
set_option maxRecDepth 65536 in
theorem w_runnable : about1.curStatus? = some .runnable := by decide +kernel
set_option maxRecDepth 65536 in
theorem w_alone : about1.alone = true := by decide +kernel
set_option maxRecDepth 65536 in
theorem w_named : about1.methodNamed? x = some theMethod := by decide +kernel
set_option maxRecDepth 65536 in
theorem w_hears : about1.hears theMethod below0 = true := by decide +kernel
set_option maxRecDepth 65536 in
theorem w_ripe : about1.ripe theMethod args0 below0 = true := by decide +kernel
theorem w_running : about1.status = .running := rfl
set_option maxRecDepth 65536 in
theorem w_room : about1.hasRoom e0.platform room_1 = true :=
  launch0.hasRoom_least _ room_1 (by decide +kernel) (by decide +kernel) (by decide +kernel) (by decide +kernel) (by decide +kernel) (by decide +kernel)
theorem allAtoms_all (ts : List Jvm.Cond) (a : Array Jvm.Value) (st : Jvm.State) : (allAtoms ts).before a st = ts.all (fun c => c.before a st) := by
  induction ts with
  | nil => rfl
  | cons c t ih =>
    show (Jvm.Cond.and c (allAtoms t)).before a st = _
    rw [Jvm.Cond.before_and, ih, List.all_cons]
def words1 : List Jvm.Cond := Jvm.Cond.code x code maxLocals ret :: tables_1
/-- a 'code' word, met by the world's own term for the bytes: nothing is compared byte by byte -/
theorem code_word {y : MethodName} {bytes : ByteArray} {mx : Nat} {rt : Option FieldType} {a : Array Value} {s : State} {m : MethodId} {meth : Method} {c : Code} (h1 : s.methodNamed? y = some m) (h2 : s.vm.method? m = some meth) (h3 : meth.code = some c) (h4 : c.code = bytes)
    (h5 : (c.maxLocals == mx && c.exceptionTable.isEmpty && decide (c.maxStack ≤ mostOperands) && decide (meth.sig.returnType = rt) && !meth.locks && decide (parseMethodDescriptor y.desc = some meth.sig)) = true) : (Jvm.Cond.code y bytes mx rt).before a s = true := by
  simp only [Bool.and_eq_true, beq_iff_eq, Bool.not_eq_true', decide_eq_true_eq] at h5
  obtain ⟨⟨⟨⟨⟨g1, g2⟩, g3⟩, g4⟩, g5⟩, g6⟩ := h5
  simp [Cond.before, Cond.holds, Cond.value, h1, h2, h3, h4, g1, g2, g3, g4, g5, g6]
def isCode : Jvm.Cond → Bool
  | .code _ _ _ _ => true
  | _ => false
theorem all_split {L : List Jvm.Cond} {P : Jvm.Cond → Bool} (h1 : L.all (fun c => isCode c || P c) = true) (h2 : ∀ c ∈ L.filter isCode, P c = true) : L.all P = true := by
  refine List.all_eq_true.mpr fun c hc => ?_
  have h := List.all_eq_true.mp h1 c hc
  rcases Bool.eq_false_or_eq_true (isCode c) with hi | hi
  · exact h2 c (List.mem_filter.mpr ⟨hc, hi⟩)
  · simpa [hi] using h
set_option maxRecDepth 65536 in
theorem w_c0 : (Jvm.Cond.code x code maxLocals ret).before args0 about1 = true := code_word (m := ⟨1, 2⟩) (meth := k1m2) (c := k1c2) (by decide +kernel) rfl rfl rfl (by decide +kernel)
set_option maxRecDepth 65536 in
theorem w_c1 : (Jvm.Cond.code ({ cls := "io/github/keyhold/core/Ed25519FieldFromBytesPinLaw", name := "put", desc := "([BIJ)V" } : Jvm.MethodName) method_2_code (4 : Nat) (Option.none : Option Jvm.ClassFile.FieldType)).before args0 about1 = true := code_word (m := ⟨1, 1⟩) (meth := k1m1) (c := k1c1) (by decide +kernel) rfl rfl rfl (by decide +kernel)
set_option maxRecDepth 65536 in
theorem w_c2 : (Jvm.Cond.code ({ cls := "io/github/keyhold/core/Ed25519Field", name := "fromBytes", desc := "([BI)[J" } : Jvm.MethodName) prog_11_method_4_code (6 : Nat) (Option.some (Jvm.ClassFile.FieldType.array Jvm.ClassFile.FieldType.long))).before args0 about1 = true := code_word (m := ⟨2, 1⟩) (meth := k2m1) (c := k2c1) (by decide +kernel) rfl rfl rfl (by decide +kernel)
def codes1 : List Jvm.Cond := [Jvm.Cond.code x code maxLocals ret, Jvm.Cond.code ({ cls := "io/github/keyhold/core/Ed25519FieldFromBytesPinLaw", name := "put", desc := "([BIJ)V" } : Jvm.MethodName) method_2_code (4 : Nat) (Option.none : Option Jvm.ClassFile.FieldType), Jvm.Cond.code ({ cls := "io/github/keyhold/core/Ed25519Field", name := "fromBytes", desc := "([BI)[J" } : Jvm.MethodName) prog_11_method_4_code (6 : Nat) (Option.some (Jvm.ClassFile.FieldType.array Jvm.ClassFile.FieldType.long))]
set_option maxRecDepth 65536 in
theorem codes_eq : words1.filter isCode = codes1 := rfl
theorem w_codes : ∀ c ∈ words1.filter isCode, c.before args0 about1 = true := by
  rw [codes_eq]
  intro c hc
  simp only [codes1, List.mem_cons, List.not_mem_nil, or_false] at hc
  rcases hc with rfl | rfl | rfl
  · exact w_c0
  · exact w_c1
  · exact w_c2
set_option maxRecDepth 65536 in
theorem w_t1 : words1.all (fun c => isCode c || c.before args0 about1) = true := by decide +kernel
theorem w_tables : (allAtoms (Jvm.Cond.code x code maxLocals ret :: tables_1)).before args0 about1 = true := by
  rw [allAtoms_all]
  show words1.all (fun c => c.before args0 about1) = true
  refine all_split ?_ w_codes
  rw [w_t1]
set_option maxRecDepth 65536 in
theorem w_case : (Jvm.Cond.and given_1 narrow_1).before args0 about1 = true := by decide +kernel
theorem w_applies : (headSpec (Jvm.Cond.code x code maxLocals ret :: tables_1) room_1).applies x e0.platform about1 = true :=
  (Spec.applies_iff w_frames).mpr ⟨w_running, w_runnable, w_alone, w_named, w_hears, w_ripe, w_room, w_tables⟩
theorem atStart : AtStart classFile x code maxLocals ret World_1 tables_1 room_1 Calls_1 rest_1 Pre_1 launch0 p0 e0 about1 theMethod args0 below0 :=
  ⟨lists_1, trivial, launch0.admits_env _ _ _, launch0.least_env, fairChoices_fair.cas, fairChoices_fair.clock, w_frames, w_args, w_heap, w_applies, trivial, trivial, w_case⟩
end start1
theorem witness_1 : WitnessClaimed_1 := ⟨start1.p0, start1.e0, start1.about1, start1.theMethod, start1.args0, start1.below0, start1.atStart⟩
end Jvm.Pilot.@@N@@
