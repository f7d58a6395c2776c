import JvmDerived
import JvmDerived.Pilot.@@N@@Statement
import JvmDerived.Pilot.@@N@@Code
set_option linter.unusedVariables false
set_option linter.unusedSimpArgs false

namespace Jvm.Pilot.@@N@@
open Jvm Jvm.ClassFile Sem Op Lib Jvm.Free Jvm.Stand Jvm.LawKit Jvm.RoadKit Bundle Jvm.Pilot.@@N@@.Jvm.D
/-- from S the run comes to an end of which P holds -/
abbrev Ends (tb : Tables) (e : Env) (below : List Frame) (S : State) (P : State → Outcome → Prop) : Prop := ∃ t o, Steps tb e below S t ∧ P t o
theorem own_via {tb : Tables} {e : Env} {below : List Frame} {S S' : State} {P : State → Outcome → Prop} (h : ∀ t, Steps tb e below S' t → Steps tb e below S t) (k : Ends tb e below S' P) : Ends tb e below S P := by
  obtain ⟨t, o, a, b⟩ := k
  exact ⟨t, o, h t a, b⟩
theorem own_begin {tb : Tables} {e : Env} {below : List Frame} {T : State} {g g' : JFrame} {P : State → Outcome → Prop} (q : g = g') (k : Ends tb e below (T.setTop g') P) : ∃ t o, Steps tb e below (T.setTop g) t ∧ P t o := by
  subst q
  exact k
/-- several roads come to one place -/
theorem own_join {tb : Tables} {e : Env} {below : List Frame} {S0 : State} {P : State → Outcome → Prop} {α : Type} (S : α → State) (H : α → Prop) (k1 : (∀ w, H w → Ends tb e below (S w) P) → Ends tb e below S0 P) (k2 : ∀ w, H w → Ends tb e below (S w) P) : Ends tb e below S0 P := k1 k2
theorem own_rwm {s t : State} {o : Outcome} {L : List Loc} {k n k' n' : Nat} (h : ReturnedEndW s o t L k n) (h1 : k ≤ k') (h2 : n ≤ n') : ReturnedEndW s o t L k' n' := ⟨h.1, h.2.1, h.2.2.1, h.2.2.2.mono h1 h2⟩
theorem own_narR {v : Value} {C : String} (h : v.isRef = true) : narrow (.object C) v = v := by cases v <;> first | rfl | (simp [Value.isRef] at h)
theorem own_fitR {v : Value} {C : String} (h : v.isRef = true) : fits (.object C) v = true := by cases v <;> first | rfl | (simp [Value.isRef] at h)
theorem own_catR {v : Value} (h : v.isRef = true) : v.category = 1 := by cases v <;> first | rfl | (simp [Value.isRef] at h)
theorem own_selPriv {s : State} {args : Array Value} {y z : MethodName} (hz : z.cls = y.cls) (hsel : (Jvm.Cond.selects z.cls z z).before args s = true) (hpriv : s.PrivateAt y) (hinst : (Jvm.Cond.instanceMethod y).before args s = true) (hy : y.cls ≠ "java/lang/invoke/MethodHandle" ∧ y.cls ≠ "java/lang/invoke/VarHandle") : (Jvm.Cond.selects y.cls y y).before args s = true := by
  obtain ⟨c2, r2, m2, -, -, q3, -, kP, hkP, hkPi⟩ := Cond.selects_spec hsel
  exact selects_self_of_private (hz ▸ findClass_of_methodNamed q3) hkP hkPi hpriv hinst hy
section OwnSteps
variable {tb : Tables} [Ours tb] {e : Env} {below : List Frame} {T : State} {m : MethodId} {c : Code} {P : State → Outcome → Prop} {pc pc' : Nat} {ls l' : Array Slot} {st : List Value}
theorem s_iload (h : At T m c below) (hx : tb.exec = Jvm.exec) {k : Nat} {v : Int32} (hd : decode c.code pc = .ok (.iload k, 2)) (hl : ls[k]? = some (.val (.int v))) (hp : pc + 2 = pc') (hr : Ends tb e below (T.setTop (mkF m pc' ls (.int v :: st))) P) : Ends tb e below (T.setTop (mkF m pc ls st)) P := by
  subst hp
  exact own_via (fun t_ k_ => XS.iload h hx rfl hd hl k_) hr
theorem s_istore (h : At T m c below) (hx : tb.exec = Jvm.exec) {k : Nat} {v : Int32} (hd : decode c.code pc = .ok (.istore k, 2)) (hl : storeLocals ls k (.int v) = some l') (hp : pc + 2 = pc') (hr : Ends tb e below (T.setTop (mkF m pc' l' st)) P) : Ends tb e below (T.setTop (mkF m pc ls (.int v :: st))) P := by
  subst hp
  exact own_via (fun t_ k_ => XS.istore h hx rfl hd rfl hl k_) hr
theorem s_iloadN (h : At T m c below) (hx : tb.exec = Jvm.exec) {k : Fin 4} {v : Int32} (hd : decode c.code pc = .ok (.iload_n k, 1)) (hl : ls[k.val]? = some (.val (.int v))) (hp : pc + 1 = pc') (hr : Ends tb e below (T.setTop (mkF m pc' ls (.int v :: st))) P) : Ends tb e below (T.setTop (mkF m pc ls st)) P := by
  subst hp
  exact own_via (fun t_ k_ => XS.iloadN h hx rfl hd hl k_) hr
theorem s_istoreN (h : At T m c below) (hx : tb.exec = Jvm.exec) {k : Fin 4} {v : Int32} (hd : decode c.code pc = .ok (.istore_n k, 1)) (hl : storeLocals ls k.val (.int v) = some l') (hp : pc + 1 = pc') (hr : Ends tb e below (T.setTop (mkF m pc' l' st)) P) : Ends tb e below (T.setTop (mkF m pc ls (.int v :: st))) P := by
  subst hp
  exact own_via (fun t_ k_ => XS.istoreN h hx rfl hd rfl hl k_) hr
theorem s_lload (h : At T m c below) (hx : tb.exec = Jvm.exec) {k : Nat} {v : Int64} (hd : decode c.code pc = .ok (.lload k, 2)) (hl : ls[k]? = some (.val (.long v))) (hp : pc + 2 = pc') (hr : Ends tb e below (T.setTop (mkF m pc' ls (.long v :: st))) P) : Ends tb e below (T.setTop (mkF m pc ls st)) P := by
  subst hp
  exact own_via (fun t_ k_ => XS.lload h hx rfl hd hl k_) hr
theorem s_lstore (h : At T m c below) (hx : tb.exec = Jvm.exec) {k : Nat} {v : Int64} (hd : decode c.code pc = .ok (.lstore k, 2)) (hl : storeLocals ls k (.long v) = some l') (hp : pc + 2 = pc') (hr : Ends tb e below (T.setTop (mkF m pc' l' st)) P) : Ends tb e below (T.setTop (mkF m pc ls (.long v :: st))) P := by
  subst hp
  exact own_via (fun t_ k_ => XS.lstore h hx rfl hd rfl hl k_) hr
theorem s_lloadN (h : At T m c below) (hx : tb.exec = Jvm.exec) {k : Fin 4} {v : Int64} (hd : decode c.code pc = .ok (.lload_n k, 1)) (hl : ls[k.val]? = some (.val (.long v))) (hp : pc + 1 = pc') (hr : Ends tb e below (T.setTop (mkF m pc' ls (.long v :: st))) P) : Ends tb e below (T.setTop (mkF m pc ls st)) P := by
  subst hp
  exact own_via (fun t_ k_ => XS.lloadN h hx rfl hd hl k_) hr
theorem s_lstoreN (h : At T m c below) (hx : tb.exec = Jvm.exec) {k : Fin 4} {v : Int64} (hd : decode c.code pc = .ok (.lstore_n k, 1)) (hl : storeLocals ls k.val (.long v) = some l') (hp : pc + 1 = pc') (hr : Ends tb e below (T.setTop (mkF m pc' l' st)) P) : Ends tb e below (T.setTop (mkF m pc ls (.long v :: st))) P := by
  subst hp
  exact own_via (fun t_ k_ => XS.lstoreN h hx rfl hd rfl hl k_) hr
theorem s_dload (h : At T m c below) (hx : tb.exec = Jvm.exec) {k : Nat} {v : UInt64} (hd : decode c.code pc = .ok (.dload k, 2)) (hl : ls[k]? = some (.val (.double v))) (hp : pc + 2 = pc') (hr : Ends tb e below (T.setTop (mkF m pc' ls (.double v :: st))) P) : Ends tb e below (T.setTop (mkF m pc ls st)) P := by
  subst hp
  exact own_via (fun t_ k_ => XS.dload h hx rfl hd hl k_) hr
theorem s_dstore (h : At T m c below) (hx : tb.exec = Jvm.exec) {k : Nat} {v : UInt64} (hd : decode c.code pc = .ok (.dstore k, 2)) (hl : storeLocals ls k (.double v) = some l') (hp : pc + 2 = pc') (hr : Ends tb e below (T.setTop (mkF m pc' l' st)) P) : Ends tb e below (T.setTop (mkF m pc ls (.double v :: st))) P := by
  subst hp
  exact own_via (fun t_ k_ => XS.dstore h hx rfl hd rfl hl k_) hr
theorem s_dloadN (h : At T m c below) (hx : tb.exec = Jvm.exec) {k : Fin 4} {v : UInt64} (hd : decode c.code pc = .ok (.dload_n k, 1)) (hl : ls[k.val]? = some (.val (.double v))) (hp : pc + 1 = pc') (hr : Ends tb e below (T.setTop (mkF m pc' ls (.double v :: st))) P) : Ends tb e below (T.setTop (mkF m pc ls st)) P := by
  subst hp
  exact own_via (fun t_ k_ => XS.dloadN h hx rfl hd hl k_) hr
theorem s_dstoreN (h : At T m c below) (hx : tb.exec = Jvm.exec) {k : Fin 4} {v : UInt64} (hd : decode c.code pc = .ok (.dstore_n k, 1)) (hl : storeLocals ls k.val (.double v) = some l') (hp : pc + 1 = pc') (hr : Ends tb e below (T.setTop (mkF m pc' l' st)) P) : Ends tb e below (T.setTop (mkF m pc ls (.double v :: st))) P := by
  subst hp
  exact own_via (fun t_ k_ => XS.dstoreN h hx rfl hd rfl hl k_) hr
theorem s_aload (h : At T m c below) (hx : tb.exec = Jvm.exec) {k : Nat} {v : Value} (hd : decode c.code pc = .ok (.aload k, 2)) (hl : ls[k]? = some (.val v)) (hv : v.isRef = true) (hp : pc + 2 = pc') (hr : Ends tb e below (T.setTop (mkF m pc' ls (v :: st))) P) : Ends tb e below (T.setTop (mkF m pc ls st)) P := by
  subst hp
  exact own_via (fun t_ k_ => XS.aload h hx rfl hd hl hv k_) hr
theorem s_astore (h : At T m c below) (hx : tb.exec = Jvm.exec) {k : Nat} {v : Value} (hd : decode c.code pc = .ok (.astore k, 2)) (hv : v.isRef = true) (hl : storeLocals ls k v = some l') (hp : pc + 2 = pc') (hr : Ends tb e below (T.setTop (mkF m pc' l' st)) P) : Ends tb e below (T.setTop (mkF m pc ls (v :: st))) P := by
  subst hp
  exact own_via (fun t_ k_ => XS.astore h hx rfl hd rfl hv hl k_) hr
theorem s_aloadN (h : At T m c below) (hx : tb.exec = Jvm.exec) {k : Fin 4} {v : Value} (hd : decode c.code pc = .ok (.aload_n k, 1)) (hl : ls[k.val]? = some (.val v)) (hv : v.isRef = true) (hp : pc + 1 = pc') (hr : Ends tb e below (T.setTop (mkF m pc' ls (v :: st))) P) : Ends tb e below (T.setTop (mkF m pc ls st)) P := by
  subst hp
  exact own_via (fun t_ k_ => XS.aloadN h hx rfl hd hl hv k_) hr
theorem s_astoreN (h : At T m c below) (hx : tb.exec = Jvm.exec) {k : Fin 4} {v : Value} (hd : decode c.code pc = .ok (.astore_n k, 1)) (hv : v.isRef = true) (hl : storeLocals ls k.val v = some l') (hp : pc + 1 = pc') (hr : Ends tb e below (T.setTop (mkF m pc' l' st)) P) : Ends tb e below (T.setTop (mkF m pc ls (v :: st))) P := by
  subst hp
  exact own_via (fun t_ k_ => XS.astoreN h hx rfl hd rfl hv hl k_) hr
theorem s_iconst (h : At T m c below) (hx : tb.exec = Jvm.exec) {i : Int} {v : Int32} (hd : decode c.code pc = .ok (.iconst i, 1)) (hv : Int32.ofInt i = v) (hp : pc + 1 = pc') (hr : Ends tb e below (T.setTop (mkF m pc' ls (.int v :: st))) P) : Ends tb e below (T.setTop (mkF m pc ls st)) P := by
  subst hp hv
  exact own_via (fun t_ k_ => XS.iconst h hx rfl hd k_) hr
theorem s_bipush (h : At T m c below) (hx : tb.exec = Jvm.exec) {i : Int} {v : Int32} (hd : decode c.code pc = .ok (.bipush i, 2)) (hv : (Int8.ofInt i).toInt32 = v) (hp : pc + 2 = pc') (hr : Ends tb e below (T.setTop (mkF m pc' ls (.int v :: st))) P) : Ends tb e below (T.setTop (mkF m pc ls st)) P := by
  subst hp hv
  exact own_via (fun t_ k_ => XS.bipush h hx rfl hd k_) hr
theorem s_sipush (h : At T m c below) (hx : tb.exec = Jvm.exec) {i : Int} {v : Int32} (hd : decode c.code pc = .ok (.sipush i, 3)) (hv : (Int16.ofInt i).toInt32 = v) (hp : pc + 3 = pc') (hr : Ends tb e below (T.setTop (mkF m pc' ls (.int v :: st))) P) : Ends tb e below (T.setTop (mkF m pc ls st)) P := by
  subst hp hv
  exact own_via (fun t_ k_ => XS.sipush h hx rfl hd k_) hr
theorem s_lconst (h : At T m c below) (hx : tb.exec = Jvm.exec) {i : Fin 2} {v : Int64} (hd : decode c.code pc = .ok (.lconst i, 1)) (hv : Int64.ofNat i = v) (hp : pc + 1 = pc') (hr : Ends tb e below (T.setTop (mkF m pc' ls (.long v :: st))) P) : Ends tb e below (T.setTop (mkF m pc ls st)) P := by
  subst hp hv
  exact own_via (fun t_ k_ => XS.lconst h hx rfl hd k_) hr
theorem s_aconstNull (h : At T m c below) (hx : tb.exec = Jvm.exec)  (hd : decode c.code pc = .ok (.aconst_null, 1))  (hp : pc + 1 = pc') (hr : Ends tb e below (T.setTop (mkF m pc' ls (.null :: st))) P) : Ends tb e below (T.setTop (mkF m pc ls st)) P := by
  subst hp
  exact own_via (fun t_ k_ => XS.aconstNull h hx rfl hd k_) hr
theorem s_iadd (h : At T m c below) (hx : tb.exec = Jvm.exec) {x y : Int32} (hd : decode c.code pc = .ok (.iadd, 1))  (hp : pc + 1 = pc') (hr : Ends tb e below (T.setTop (mkF m pc' ls (.int (x + y) :: st))) P) : Ends tb e below (T.setTop (mkF m pc ls (.int y :: .int x :: st))) P := by
  subst hp
  exact own_via (fun t_ k_ => XS.iadd h hx rfl hd rfl k_) hr
theorem s_isub (h : At T m c below) (hx : tb.exec = Jvm.exec) {x y : Int32} (hd : decode c.code pc = .ok (.isub, 1))  (hp : pc + 1 = pc') (hr : Ends tb e below (T.setTop (mkF m pc' ls (.int (x - y) :: st))) P) : Ends tb e below (T.setTop (mkF m pc ls (.int y :: .int x :: st))) P := by
  subst hp
  exact own_via (fun t_ k_ => XS.isub h hx rfl hd rfl k_) hr
theorem s_imul (h : At T m c below) (hx : tb.exec = Jvm.exec) {x y : Int32} (hd : decode c.code pc = .ok (.imul, 1))  (hp : pc + 1 = pc') (hr : Ends tb e below (T.setTop (mkF m pc' ls (.int (x * y) :: st))) P) : Ends tb e below (T.setTop (mkF m pc ls (.int y :: .int x :: st))) P := by
  subst hp
  exact own_via (fun t_ k_ => XS.imul h hx rfl hd rfl k_) hr
theorem s_iand (h : At T m c below) (hx : tb.exec = Jvm.exec) {x y : Int32} (hd : decode c.code pc = .ok (.iand, 1))  (hp : pc + 1 = pc') (hr : Ends tb e below (T.setTop (mkF m pc' ls (.int (x &&& y) :: st))) P) : Ends tb e below (T.setTop (mkF m pc ls (.int y :: .int x :: st))) P := by
  subst hp
  exact own_via (fun t_ k_ => XS.iand h hx rfl hd rfl k_) hr
theorem s_ior (h : At T m c below) (hx : tb.exec = Jvm.exec) {x y : Int32} (hd : decode c.code pc = .ok (.ior, 1))  (hp : pc + 1 = pc') (hr : Ends tb e below (T.setTop (mkF m pc' ls (.int (x ||| y) :: st))) P) : Ends tb e below (T.setTop (mkF m pc ls (.int y :: .int x :: st))) P := by
  subst hp
  exact own_via (fun t_ k_ => XS.ior h hx rfl hd rfl k_) hr
theorem s_ixor (h : At T m c below) (hx : tb.exec = Jvm.exec) {x y : Int32} (hd : decode c.code pc = .ok (.ixor, 1))  (hp : pc + 1 = pc') (hr : Ends tb e below (T.setTop (mkF m pc' ls (.int (x ^^^ y) :: st))) P) : Ends tb e below (T.setTop (mkF m pc ls (.int y :: .int x :: st))) P := by
  subst hp
  exact own_via (fun t_ k_ => XS.ixor h hx rfl hd rfl k_) hr
theorem s_ishl (h : At T m c below) (hx : tb.exec = Jvm.exec) {x y : Int32} (hd : decode c.code pc = .ok (.ishl, 1))  (hp : pc + 1 = pc') (hr : Ends tb e below (T.setTop (mkF m pc' ls (.int (x <<< (y &&& 31)) :: st))) P) : Ends tb e below (T.setTop (mkF m pc ls (.int y :: .int x :: st))) P := by
  subst hp
  exact own_via (fun t_ k_ => XS.ishl h hx rfl hd rfl k_) hr
theorem s_ishr (h : At T m c below) (hx : tb.exec = Jvm.exec) {x y : Int32} (hd : decode c.code pc = .ok (.ishr, 1))  (hp : pc + 1 = pc') (hr : Ends tb e below (T.setTop (mkF m pc' ls (.int (x >>> (y &&& 31)) :: st))) P) : Ends tb e below (T.setTop (mkF m pc ls (.int y :: .int x :: st))) P := by
  subst hp
  exact own_via (fun t_ k_ => XS.ishr h hx rfl hd rfl k_) hr
theorem s_iushr (h : At T m c below) (hx : tb.exec = Jvm.exec) {x y : Int32} (hd : decode c.code pc = .ok (.iushr, 1))  (hp : pc + 1 = pc') (hr : Ends tb e below (T.setTop (mkF m pc' ls (.int ((x.toUInt32 >>> (y &&& 31).toUInt32).toInt32) :: st))) P) : Ends tb e below (T.setTop (mkF m pc ls (.int y :: .int x :: st))) P := by
  subst hp
  exact own_via (fun t_ k_ => XS.iushr h hx rfl hd rfl k_) hr
theorem s_ladd (h : At T m c below) (hx : tb.exec = Jvm.exec) {x y : Int64} (hd : decode c.code pc = .ok (.ladd, 1))  (hp : pc + 1 = pc') (hr : Ends tb e below (T.setTop (mkF m pc' ls (.long (x + y) :: st))) P) : Ends tb e below (T.setTop (mkF m pc ls (.long y :: .long x :: st))) P := by
  subst hp
  exact own_via (fun t_ k_ => XS.ladd h hx rfl hd rfl k_) hr
theorem s_lsub (h : At T m c below) (hx : tb.exec = Jvm.exec) {x y : Int64} (hd : decode c.code pc = .ok (.lsub, 1))  (hp : pc + 1 = pc') (hr : Ends tb e below (T.setTop (mkF m pc' ls (.long (x - y) :: st))) P) : Ends tb e below (T.setTop (mkF m pc ls (.long y :: .long x :: st))) P := by
  subst hp
  exact own_via (fun t_ k_ => XS.lsub h hx rfl hd rfl k_) hr
theorem s_lmul (h : At T m c below) (hx : tb.exec = Jvm.exec) {x y : Int64} (hd : decode c.code pc = .ok (.lmul, 1))  (hp : pc + 1 = pc') (hr : Ends tb e below (T.setTop (mkF m pc' ls (.long (x * y) :: st))) P) : Ends tb e below (T.setTop (mkF m pc ls (.long y :: .long x :: st))) P := by
  subst hp
  exact own_via (fun t_ k_ => XS.lmul h hx rfl hd rfl k_) hr
theorem s_land (h : At T m c below) (hx : tb.exec = Jvm.exec) {x y : Int64} (hd : decode c.code pc = .ok (.land, 1))  (hp : pc + 1 = pc') (hr : Ends tb e below (T.setTop (mkF m pc' ls (.long (x &&& y) :: st))) P) : Ends tb e below (T.setTop (mkF m pc ls (.long y :: .long x :: st))) P := by
  subst hp
  exact own_via (fun t_ k_ => XS.land h hx rfl hd rfl k_) hr
theorem s_lor (h : At T m c below) (hx : tb.exec = Jvm.exec) {x y : Int64} (hd : decode c.code pc = .ok (.lor, 1))  (hp : pc + 1 = pc') (hr : Ends tb e below (T.setTop (mkF m pc' ls (.long (x ||| y) :: st))) P) : Ends tb e below (T.setTop (mkF m pc ls (.long y :: .long x :: st))) P := by
  subst hp
  exact own_via (fun t_ k_ => XS.lor h hx rfl hd rfl k_) hr
theorem s_lxor (h : At T m c below) (hx : tb.exec = Jvm.exec) {x y : Int64} (hd : decode c.code pc = .ok (.lxor, 1))  (hp : pc + 1 = pc') (hr : Ends tb e below (T.setTop (mkF m pc' ls (.long (x ^^^ y) :: st))) P) : Ends tb e below (T.setTop (mkF m pc ls (.long y :: .long x :: st))) P := by
  subst hp
  exact own_via (fun t_ k_ => XS.lxor h hx rfl hd rfl k_) hr
theorem s_lshl (h : At T m c below) (hx : tb.exec = Jvm.exec) {x : Int64} {y : Int32} (hd : decode c.code pc = .ok (.lshl, 1))  (hp : pc + 1 = pc') (hr : Ends tb e below (T.setTop (mkF m pc' ls (.long (x <<< (y &&& 0x3f).toInt64) :: st))) P) : Ends tb e below (T.setTop (mkF m pc ls (.int y :: .long x :: st))) P := by
  subst hp
  exact own_via (fun t_ k_ => XS.lshl h hx rfl hd rfl k_) hr
theorem s_lshr (h : At T m c below) (hx : tb.exec = Jvm.exec) {x : Int64} {y : Int32} (hd : decode c.code pc = .ok (.lshr, 1))  (hp : pc + 1 = pc') (hr : Ends tb e below (T.setTop (mkF m pc' ls (.long (x >>> (y &&& 0x3f).toInt64) :: st))) P) : Ends tb e below (T.setTop (mkF m pc ls (.int y :: .long x :: st))) P := by
  subst hp
  exact own_via (fun t_ k_ => XS.lshr h hx rfl hd rfl k_) hr
theorem s_lushr (h : At T m c below) (hx : tb.exec = Jvm.exec) {x : Int64} {y : Int32} (hd : decode c.code pc = .ok (.lushr, 1))  (hp : pc + 1 = pc') (hr : Ends tb e below (T.setTop (mkF m pc' ls (.long ((x.toUInt64 >>> (y &&& 0x3f).toInt64.toUInt64).toInt64) :: st))) P) : Ends tb e below (T.setTop (mkF m pc ls (.int y :: .long x :: st))) P := by
  subst hp
  exact own_via (fun t_ k_ => XS.lushr h hx rfl hd rfl k_) hr
theorem s_idiv (h : At T m c below) (hx : tb.exec = Jvm.exec) {x y : Int32} (hd : decode c.code pc = .ok (.idiv, 1)) (hy : y ≠ 0) (hp : pc + 1 = pc') (hr : Ends tb e below (T.setTop (mkF m pc' ls (.int (x / y) :: st))) P) : Ends tb e below (T.setTop (mkF m pc ls (.int y :: .int x :: st))) P := by
  subst hp
  exact own_via (fun t_ k_ => XS.idiv h hx rfl hd rfl hy k_) hr
theorem s_ldiv (h : At T m c below) (hx : tb.exec = Jvm.exec) {x y : Int64} (hd : decode c.code pc = .ok (.ldiv, 1)) (hy : y ≠ 0) (hp : pc + 1 = pc') (hr : Ends tb e below (T.setTop (mkF m pc' ls (.long (x / y) :: st))) P) : Ends tb e below (T.setTop (mkF m pc ls (.long y :: .long x :: st))) P := by
  subst hp
  exact own_via (fun t_ k_ => XS.ldiv h hx rfl hd rfl hy k_) hr
theorem s_lrem (h : At T m c below) (hx : tb.exec = Jvm.exec) {x y : Int64} (hd : decode c.code pc = .ok (.lrem, 1)) (hy : y ≠ 0) (hp : pc + 1 = pc') (hr : Ends tb e below (T.setTop (mkF m pc' ls (.long (x % y) :: st))) P) : Ends tb e below (T.setTop (mkF m pc ls (.long y :: .long x :: st))) P := by
  subst hp
  exact own_via (fun t_ k_ => XS.lrem h hx rfl hd rfl hy (by rw [lrem_mod]; exact k_)) hr
theorem s_ineg (h : At T m c below) (hx : tb.exec = Jvm.exec) {x : Int32} (hd : decode c.code pc = .ok (.ineg, 1))  (hp : pc + 1 = pc') (hr : Ends tb e below (T.setTop (mkF m pc' ls (.int (-x) :: st))) P) : Ends tb e below (T.setTop (mkF m pc ls (.int x :: st))) P := by
  subst hp
  exact own_via (fun t_ k_ => XS.ineg h hx rfl hd rfl k_) hr
theorem s_lneg (h : At T m c below) (hx : tb.exec = Jvm.exec) {x : Int64} (hd : decode c.code pc = .ok (.lneg, 1))  (hp : pc + 1 = pc') (hr : Ends tb e below (T.setTop (mkF m pc' ls (.long (-x) :: st))) P) : Ends tb e below (T.setTop (mkF m pc ls (.long x :: st))) P := by
  subst hp
  exact own_via (fun t_ k_ => XS.lneg h hx rfl hd rfl k_) hr
theorem s_i2l (h : At T m c below) (hx : tb.exec = Jvm.exec) {x : Int32} (hd : decode c.code pc = .ok (.i2l, 1))  (hp : pc + 1 = pc') (hr : Ends tb e below (T.setTop (mkF m pc' ls (.long (x.toInt64) :: st))) P) : Ends tb e below (T.setTop (mkF m pc ls (.int x :: st))) P := by
  subst hp
  exact own_via (fun t_ k_ => XS.i2l h hx rfl hd rfl k_) hr
theorem s_l2i (h : At T m c below) (hx : tb.exec = Jvm.exec) {x : Int64} (hd : decode c.code pc = .ok (.l2i, 1))  (hp : pc + 1 = pc') (hr : Ends tb e below (T.setTop (mkF m pc' ls (.int (x.toInt32) :: st))) P) : Ends tb e below (T.setTop (mkF m pc ls (.long x :: st))) P := by
  subst hp
  exact own_via (fun t_ k_ => XS.l2i h hx rfl hd rfl k_) hr
theorem s_i2b (h : At T m c below) (hx : tb.exec = Jvm.exec) {x : Int32} (hd : decode c.code pc = .ok (.i2b, 1))  (hp : pc + 1 = pc') (hr : Ends tb e below (T.setTop (mkF m pc' ls (.int (x.toInt8.toInt32) :: st))) P) : Ends tb e below (T.setTop (mkF m pc ls (.int x :: st))) P := by
  subst hp
  exact own_via (fun t_ k_ => XS.i2b h hx rfl hd rfl k_) hr
theorem s_i2s (h : At T m c below) (hx : tb.exec = Jvm.exec) {x : Int32} (hd : decode c.code pc = .ok (.i2s, 1))  (hp : pc + 1 = pc') (hr : Ends tb e below (T.setTop (mkF m pc' ls (.int (x.toInt16.toInt32) :: st))) P) : Ends tb e below (T.setTop (mkF m pc ls (.int x :: st))) P := by
  subst hp
  exact own_via (fun t_ k_ => XS.i2s h hx rfl hd rfl k_) hr
theorem s_i2c (h : At T m c below) (hx : tb.exec = Jvm.exec) {x : Int32} (hd : decode c.code pc = .ok (.i2c, 1))  (hp : pc + 1 = pc') (hr : Ends tb e below (T.setTop (mkF m pc' ls (.int (x.toUInt32.toUInt16.toUInt32.toInt32) :: st))) P) : Ends tb e below (T.setTop (mkF m pc ls (.int x :: st))) P := by
  subst hp
  exact own_via (fun t_ k_ => XS.i2c h hx rfl hd rfl k_) hr
theorem s_lcmp (h : At T m c below) (hx : tb.exec = Jvm.exec) {x y : Int64} (hd : decode c.code pc = .ok (.lcmp, 1))  (hp : pc + 1 = pc') (hr : Ends tb e below (T.setTop (mkF m pc' ls (.int (lcmpW x y) :: st))) P) : Ends tb e below (T.setTop (mkF m pc ls (.long y :: .long x :: st))) P := by
  subst hp
  exact own_via (fun t_ k_ => XS.lcmp h hx rfl hd rfl k_) hr
theorem s_l2d (h : At T m c below) (hx : tb.exec = Jvm.exec) {x : Int64} (hd : decode c.code pc = .ok (.l2d, 1))  (hp : pc + 1 = pc') (hr : Ends tb e below (T.setTop (mkF m pc' ls (.double (FP.l2d x) :: st))) P) : Ends tb e below (T.setTop (mkF m pc ls (.long x :: st))) P := by
  subst hp
  exact own_via (fun t_ k_ => XS.l2dS h hx rfl hd rfl rfl k_) hr
theorem s_dneg (h : At T m c below) (hx : tb.exec = Jvm.exec) {x : UInt64} (hd : decode c.code pc = .ok (.dneg, 1))  (hp : pc + 1 = pc') (hr : Ends tb e below (T.setTop (mkF m pc' ls (.double (FP.dneg x) :: st))) P) : Ends tb e below (T.setTop (mkF m pc ls (.double x :: st))) P := by
  subst hp
  exact own_via (fun t_ k_ => XS.dnegS h hx rfl hd rfl rfl k_) hr
theorem s_dcmp (h : At T m c below) (hx : tb.exec = Jvm.exec) {o : CmpOp} {x y : UInt64} (hd : decode c.code pc = .ok (.dcmp o, 1))  (hp : pc + 1 = pc') (hr : Ends tb e below (T.setTop (mkF m pc' ls (.int (cmpValue (FP.dcmp x y) o) :: st))) P) : Ends tb e below (T.setTop (mkF m pc ls (.double y :: .double x :: st))) P := by
  subst hp
  exact own_via (fun t_ k_ => XS.dcmpS h hx rfl hd rfl rfl k_) hr
theorem s_iinc (h : At T m c below) (hx : tb.exec = Jvm.exec) {k : Nat} {i : Int} {x v : Int32} (hd : decode c.code pc = .ok (.iinc k i, 3)) (hv : Int32.ofInt i = v) (hl : ls[k]? = some (.val (.int x))) (hl' : storeLocals ls k (.int (x + v)) = some l') (hp : pc + 3 = pc') (hr : Ends tb e below (T.setTop (mkF m pc' l' st)) P) : Ends tb e below (T.setTop (mkF m pc ls st)) P := by
  subst hp hv
  exact own_via (fun t_ k_ => XS.iinc h hx rfl hd hl hl' k_) hr
theorem s_dup (h : At T m c below) (hx : tb.exec = Jvm.exec) {x : Value} (hd : decode c.code pc = .ok (.dup, 1)) (hc : x.category = 1) (hp : pc + 1 = pc') (hr : Ends tb e below (T.setTop (mkF m pc' ls (x :: x :: st))) P) : Ends tb e below (T.setTop (mkF m pc ls (x :: st))) P := by
  subst hp
  exact own_via (fun t_ k_ => XS.dup h hx rfl hd rfl hc k_) hr
theorem s_dupX1 (h : At T m c below) (hx : tb.exec = Jvm.exec) {x y : Value} (hd : decode c.code pc = .ok (.dup_x1, 1)) (hc : x.category = 1) (hc' : y.category = 1) (hp : pc + 1 = pc') (hr : Ends tb e below (T.setTop (mkF m pc' ls (x :: y :: x :: st))) P) : Ends tb e below (T.setTop (mkF m pc ls (x :: y :: st))) P := by
  subst hp
  exact own_via (fun t_ k_ => XS.dupX1 h hx rfl hd rfl hc hc' k_) hr
theorem s_dup2 (h : At T m c below) (hx : tb.exec = Jvm.exec) {x y : Value} (hd : decode c.code pc = .ok (.dup2, 1)) (hc : x.category = 1) (hc' : y.category = 1) (hp : pc + 1 = pc') (hr : Ends tb e below (T.setTop (mkF m pc' ls (x :: y :: x :: y :: st))) P) : Ends tb e below (T.setTop (mkF m pc ls (x :: y :: st))) P := by
  subst hp
  exact own_via (fun t_ k_ => XT.dup2 h hx rfl hd rfl hc hc' k_) hr
theorem s_dup2L (h : At T m c below) (hx : tb.exec = Jvm.exec) {x : Int64} (hd : decode c.code pc = .ok (.dup2, 1))  (hp : pc + 1 = pc') (hr : Ends tb e below (T.setTop (mkF m pc' ls (.long x :: .long x :: st))) P) : Ends tb e below (T.setTop (mkF m pc ls (.long x :: st))) P := by
  subst hp
  exact own_via (fun t_ k_ => XT.dup2L h hx rfl hd rfl k_) hr
theorem s_pop (h : At T m c below) (hx : tb.exec = Jvm.exec) {x : Value} (hd : decode c.code pc = .ok (.pop, 1)) (hc : x.category = 1) (hp : pc + 1 = pc') (hr : Ends tb e below (T.setTop (mkF m pc' ls st)) P) : Ends tb e below (T.setTop (mkF m pc ls (x :: st))) P := by
  subst hp
  exact own_via (fun t_ k_ => XS.pop h hx rfl hd rfl hc k_) hr
theorem own_pop2L {target : State} {g : JFrame} (h : At T m c below) (hx : tb.exec = Jvm.exec) (hg : g.method = m) {x : Int64} {rest : List Value} (hd : decode c.code g.pc = .ok (.pop2, 1)) (hs : g.stack = .long x :: rest)
    (hr : Steps tb e below (T.setTop { g with pc := g.pc + 1, stack := rest }) target) : Steps tb e below (T.setTop g) target := by
  subst hg
  jvm_step h [h.top, hx, hd, hs, Value.category]
  exact hr
theorem s_pop2L (h : At T m c below) (hx : tb.exec = Jvm.exec) {x : Int64} (hd : decode c.code pc = .ok (.pop2, 1))  (hp : pc + 1 = pc') (hr : Ends tb e below (T.setTop (mkF m pc' ls st)) P) : Ends tb e below (T.setTop (mkF m pc ls (.long x :: st))) P := by
  subst hp
  exact own_via (fun t_ k_ => own_pop2L h hx rfl hd rfl k_) hr
theorem s_goto (h : At T m c below) (hx : tb.exec = Jvm.exec)  {o : Int} (hd : decode c.code pc = .ok (.goto o, 3))  (ho : 0 ≤ (pc : Int) + o) (hp : ((pc : Int) + o).toNat = pc') (hr : Ends tb e below (T.setTop (mkF m pc' ls st)) P) : Ends tb e below (T.setTop (mkF m pc ls st)) P := own_via (fun t_ k_ => XS.goto h hx rfl rfl hd ho hp k_) hr
theorem s_ifYes (h : At T m c below) (hx : tb.exec = Jvm.exec) {cd : ClassFile.Cond} {x : Int32} {o : Int} (hd : decode c.code pc = .ok (.ifCond cd o, 3)) (hc : ifCond.holds cd x = true) (ho : 0 ≤ (pc : Int) + o) (hp : ((pc : Int) + o).toNat = pc') (hr : Ends tb e below (T.setTop (mkF m pc' ls st)) P) : Ends tb e below (T.setTop (mkF m pc ls (.int x :: st))) P := own_via (fun t_ k_ => XS.ifYes h hx rfl rfl hd rfl hc ho hp k_) hr
theorem s_ifNo (h : At T m c below) (hx : tb.exec = Jvm.exec) {cd : ClassFile.Cond} {x : Int32} {o : Int} (hd : decode c.code pc = .ok (.ifCond cd o, 3)) (hc : ifCond.holds cd x = false) (hp : pc + 3 = pc') (hr : Ends tb e below (T.setTop (mkF m pc' ls st)) P) : Ends tb e below (T.setTop (mkF m pc ls (.int x :: st))) P := by
  subst hp
  exact own_via (fun t_ k_ => XS.ifNo h hx rfl hd rfl hc k_) hr
theorem s_icmpYes (h : At T m c below) (hx : tb.exec = Jvm.exec) {cd : ClassFile.Cond} {x y : Int32} {o : Int} (hd : decode c.code pc = .ok (.if_icmp cd o, 3)) (hc : if_icmp.holds cd x y = true) (ho : 0 ≤ (pc : Int) + o) (hp : ((pc : Int) + o).toNat = pc') (hr : Ends tb e below (T.setTop (mkF m pc' ls st)) P) : Ends tb e below (T.setTop (mkF m pc ls (.int y :: .int x :: st))) P := own_via (fun t_ k_ => XS.icmpYes h hx rfl rfl hd rfl hc ho hp k_) hr
theorem s_icmpNo (h : At T m c below) (hx : tb.exec = Jvm.exec) {cd : ClassFile.Cond} {x y : Int32} {o : Int} (hd : decode c.code pc = .ok (.if_icmp cd o, 3)) (hc : if_icmp.holds cd x y = false) (hp : pc + 3 = pc') (hr : Ends tb e below (T.setTop (mkF m pc' ls st)) P) : Ends tb e below (T.setTop (mkF m pc ls (.int y :: .int x :: st))) P := by
  subst hp
  exact own_via (fun t_ k_ => XS.icmpNo h hx rfl hd rfl hc k_) hr
theorem s_ifnullYes (h : At T m c below) (hx : tb.exec = Jvm.exec)  {o : Int} (hd : decode c.code pc = .ok (.ifnull o, 3))  (ho : 0 ≤ (pc : Int) + o) (hp : ((pc : Int) + o).toNat = pc') (hr : Ends tb e below (T.setTop (mkF m pc' ls st)) P) : Ends tb e below (T.setTop (mkF m pc ls (.null :: st))) P := own_via (fun t_ k_ => XS.ifnullYes h hx rfl rfl hd rfl ho hp k_) hr
theorem s_ifnullNo (h : At T m c below) (hx : tb.exec = Jvm.exec) {b : Addr} {o : Int} (hd : decode c.code pc = .ok (.ifnull o, 3))  (hp : pc + 3 = pc') (hr : Ends tb e below (T.setTop (mkF m pc' ls st)) P) : Ends tb e below (T.setTop (mkF m pc ls (.ref b :: st))) P := by
  subst hp
  exact own_via (fun t_ k_ => XS.ifnullNo h hx rfl hd rfl k_) hr
theorem s_ifnonnullYes (h : At T m c below) (hx : tb.exec = Jvm.exec) {b : Addr} {o : Int} (hd : decode c.code pc = .ok (.ifnonnull o, 3))  (ho : 0 ≤ (pc : Int) + o) (hp : ((pc : Int) + o).toNat = pc') (hr : Ends tb e below (T.setTop (mkF m pc' ls st)) P) : Ends tb e below (T.setTop (mkF m pc ls (.ref b :: st))) P := own_via (fun t_ k_ => XS.ifnonnullYes h hx rfl rfl hd rfl ho hp k_) hr
theorem s_ifnonnullNo (h : At T m c below) (hx : tb.exec = Jvm.exec)  {o : Int} (hd : decode c.code pc = .ok (.ifnonnull o, 3))  (hp : pc + 3 = pc') (hr : Ends tb e below (T.setTop (mkF m pc' ls st)) P) : Ends tb e below (T.setTop (mkF m pc ls (.null :: st))) P := by
  subst hp
  exact own_via (fun t_ k_ => XS.ifnonnullNo h hx rfl hd rfl k_) hr
end OwnSteps
section OwnLaws
variable {p : Program} {l : Launch} {e : Env} {R : Room} {s : State} {m : MethodId} {args : Array Value} {below : List Frame} {meth : Method} {c : Code} {T : State} {locs : List Loc} {cells slots : Nat} {Z : State} {a0 : Array Value} {h : Heap} {P : State → Outcome → Prop} {pc pc' : Nat} {ls : Array Slot} {st : List Value}
theorem s_getF (X : Stand p l e R s m args below meth c T locs cells slots) (hx : p.tables.exec = Jvm.exec) (hZ : Z.Warmed39 s.vm) {own R0 O n d host : String} {index : Nat} (hown : s.vm.findClass own = some m.cls) (w : (Jvm.Cond.fieldLink own index R0 n d).before a0 Z = true ∨ (Jvm.Cond.fieldLinkNest own index R0 n d host).before a0 Z = true) (via : Via Z R0 O n d) (eT : T.heap = h) {a : Addr} {v : Value} (F : Fld Z h a O n d v) (hd : decode c.code pc = .ok (.getfield index, 3)) (hp : pc + 3 = pc') (k : ∀ T', Stand p l e R s m args below meth c T' locs cells slots → T'.heap = h → Ends p.tables e below (T'.setTop (mkF m pc' ls (v :: st))) P) : Ends p.tables e below (T.setTop (mkF m pc ls (.ref a :: st))) P := by
  subst hp
  obtain ⟨T', X', e', s'⟩ := getF X hx hZ hown w via eT F (g := mkF m pc ls (.ref a :: st)) rfl rfl hd
  exact own_via s' (k T' X' e')
theorem s_getS (X : Stand p l e R s m args below meth c T locs cells slots) (hx : p.tables.exec = Jvm.exec) (hZ : Z.Warmed39 s.vm) {own R0 O n d host : String} {index : Nat} (hown : s.vm.findClass own = some m.cls) (w : (Jvm.Cond.fieldLink own index R0 n d).before a0 Z = true ∨ (Jvm.Cond.fieldLinkNest own index R0 n d host).before a0 Z = true) (via : Via Z R0 O n d) (eT : T.heap = h) {v : Value} (F : Sta Z h O n d v) (hd : decode c.code pc = .ok (.getstatic index, 3)) (hp : pc + 3 = pc') (k : ∀ T', Stand p l e R s m args below meth c T' locs cells slots → T'.heap = h → Ends p.tables e below (T'.setTop (mkF m pc' ls (v :: st))) P) : Ends p.tables e below (T.setTop (mkF m pc ls st)) P := by
  subst hp
  obtain ⟨T', X', e', s'⟩ := getS2 X hx hZ hown w via eT F (g := mkF m pc ls st) rfl hd
  exact own_via s' (k T' X' e')
theorem s_putF (X : Stand p l e R s m args below meth c T locs cells slots) (hx : p.tables.exec = Jvm.exec) (hZ : Z.Warmed39 s.vm) {own R0 O n d host : String} {index : Nat} (hown : s.vm.findClass own = some m.cls) (w : (Jvm.Cond.fieldLink own index R0 n d).before a0 Z = true ∨ (Jvm.Cond.fieldLinkNest own index R0 n d host).before a0 Z = true) (via : Via Z R0 O n d) (eT : T.heap = h) {C : String} {kk : Nat} {ty : FieldType} {a : Addr} {v old : Value} (F : Fld Z h a O n d old) (E : Exa Z h a C) (L : (Jvm.Cond.lays C O n d).before a0 Z = true ∨ ((Jvm.Cond.laysFinal C O n d).before a0 Z = true ∧ own = O ∧ meth.name = "<init>")) (wi : (Jvm.Cond.instantiable C kk).before a0 Z = true) (hty : parseFieldDescriptor d = some ty) (hn : narrow ty v = v) (hf : fits ty v = true) (hd : decode c.code pc = .ok (.putfield index, 3)) (hp : pc + 3 = pc') (k : ∀ T' h', Stand p l e R s m args below meth c T' (locs ++ [⟨a, Jvm.RoadKit.slotOf Z O n d⟩]) cells slots → T'.heap = h' → Wr h h' a (Jvm.RoadKit.slotOf Z O n d) v → Ends p.tables e below (T'.setTop (mkF m pc' ls st)) P) : Ends p.tables e below (T.setTop (mkF m pc ls (v :: .ref a :: st))) P := by
  subst hp
  obtain ⟨T', h', X', e', W, s'⟩ := putF X hx hZ hown w via eT F E L wi hty hn hf (g := mkF m pc ls (v :: .ref a :: st)) rfl rfl hd
  exact own_via s' (k T' h' X' e' W)
theorem s_putFN (X : Stand p l e R s m args below meth c T locs cells slots) (hx : p.tables.exec = Jvm.exec) (hZ : Z.Warmed39 s.vm) {own R0 O n d : String} {index : Nat} (hown : s.vm.findClass own = some m.cls) (w : (Jvm.Cond.fieldLink own index R0 n d).before a0 Z = true) (via : Via Z R0 O n d) (eT : T.heap = h) {C : String} {kk : Nat} {ty : FieldType} {a : Addr} {v v' old : Value} (F : Fld Z h a O n d old) (E : Exa Z h a C) (L : (Jvm.Cond.lays C O n d).before a0 Z = true ∨ ((Jvm.Cond.laysFinal C O n d).before a0 Z = true ∧ own = O ∧ meth.name = "<init>")) (wi : (Jvm.Cond.instantiable C kk).before a0 Z = true) (hty : parseFieldDescriptor d = some ty) (hn : narrow ty v = v') (hf : fits ty v' = true) (hd : decode c.code pc = .ok (.putfield index, 3)) (hp : pc + 3 = pc') (k : ∀ T' h', Stand p l e R s m args below meth c T' (locs ++ [⟨a, Jvm.RoadKit.slotOf Z O n d⟩]) cells slots → T'.heap = h' → Wr h h' a (Jvm.RoadKit.slotOf Z O n d) v' → Ends p.tables e below (T'.setTop (mkF m pc' ls st)) P) : Ends p.tables e below (T.setTop (mkF m pc ls (v :: .ref a :: st))) P := by
  subst hp
  obtain ⟨T', h', X', e', W, s'⟩ := putFN X hx hZ hown w via eT F E L wi hty hn hf (g := mkF m pc ls (v :: .ref a :: st)) rfl rfl hd
  exact own_via s' (k T' h' X' e' W)
theorem s_newO (X : Stand p l e R s m args below meth c T locs cells slots) (hx : p.tables.exec = Jvm.exec) (hZ : Z.Warmed39 s.vm) {own C : String} {index n : Nat} (hown : s.vm.findClass own = some m.cls) (w : (Jvm.Cond.classLink own index C).before a0 Z = true) (wi : (Jvm.Cond.instantiable C n).before a0 Z = true) (wz : (Jvm.Cond.initialized C).before a0 Z = true) (eT : T.heap = h) (hd : decode c.code pc = .ok (.new index, 3)) (hc : cells + 1 ≤ R.cells) (hl : slots + n ≤ R.slots) (hp : pc + 3 = pc') (k : ∀ T' h', Stand p l e R s m args below meth c T' locs (cells + 1) (slots + n) → T'.heap = h' → Ext h h' → ∀ b, b = h.size → Exa Z h' b C → (∀ {O nm d : String} {ty : FieldType}, Laid Z a0 C O nm d → parseFieldDescriptor d = some ty → Fld Z h' b O nm d (defaultValue ty)) → Ends p.tables e below (T'.setTop (mkF m pc' ls (.ref b :: st))) P) : Ends p.tables e below (T.setTop (mkF m pc ls st)) P := by
  subst hp
  obtain ⟨T', h', X', e', E, A, D, -, s'⟩ := newO X hx hZ hown w wi wz eT (g := mkF m pc ls st) rfl hd hc hl
  exact own_via s' (k T' h' X' e' E _ rfl A D)
theorem s_newP (X : Stand p l e R s m args below meth c T locs cells slots) (hx : p.tables.exec = Jvm.exec) (hZ : Z.Warmed39 s.vm) {aty : ArrayType} (w : (Jvm.Cond.arrayClass (newarray.typeOf aty)).before a0 Z = true) (eT : T.heap = h) (hd : decode c.code pc = .ok (.newarray aty, 2)) {n : Int32} (hn : ¬ n < 0) {cap : Nat} (hcap : n.toNatClampNeg ≤ cap) (hb : cap * 8 ≤ 536870912) (hc : cells + 1 ≤ R.cells) (hl : slots + cap ≤ R.slots) (hp : pc + 2 = pc') (k : ∀ T' h', Stand p l e R s m args below meth c T' locs (cells + 1) (slots + cap) → T'.heap = h' → ∀ cA, Ext h h' → ∀ b, b = h.size → Arr Z h' b (newA cA (newarray.typeOf aty) n) (newarray.typeOf aty) → Ends p.tables e below (T'.setTop (mkF m pc' ls (.ref b :: st))) P) : Ends p.tables e below (T.setTop (mkF m pc ls (.int n :: st))) P := by
  subst hp
  obtain ⟨T', h', cA, X', e', E, A, s'⟩ := newP X hx hZ w eT (g := mkF m pc ls (.int n :: st)) rfl hd rfl hn hcap hb hc hl
  exact own_via s' (k T' h' X' e' cA E _ rfl A)
theorem s_newPE (X : Stand p l e R s m args below meth c T locs cells slots) (hx : p.tables.exec = Jvm.exec) (hZ : Z.Warmed39 s.vm) {aty : ArrayType} (w : (Jvm.Cond.arrayClass (newarray.typeOf aty)).before a0 Z = true) (eT : T.heap = h) (hd : decode c.code pc = .ok (.newarray aty, 2)) {n : Int32} (hn : ¬ n < 0) {cap : Nat} (hcap : n.toNatClampNeg ≤ cap) (hb : cap * 8 ≤ 536870912) (hc : cells + 1 ≤ R.cells) (hl : slots + cap ≤ R.slots) {ad : String} (had : "[" ++ (newarray.typeOf aty).toString = ad) (hp : pc + 2 = pc') (k : ∀ T' h', Stand p l e R s m args below meth c T' locs (cells + 1) (slots + cap) → T'.heap = h' → ∀ cA, Ext h h' → ∀ b, b = h.size → Arr Z h' b (newA cA (newarray.typeOf aty) n) (newarray.typeOf aty) → Exa Z h' b ad → Ends p.tables e below (T'.setTop (mkF m pc' ls (.ref b :: st))) P) : Ends p.tables e below (T.setTop (mkF m pc ls (.int n :: st))) P := by
  subst hp
  obtain ⟨T', h', cA, X', e', E, A, Ex, s'⟩ := newPE X hx hZ w eT (g := mkF m pc ls (.int n :: st)) rfl hd rfl hn hcap hb hc hl had
  exact own_via s' (k T' h' X' e' cA E _ rfl A Ex)
theorem s_newR (X : Stand p l e R s m args below meth c T locs cells slots) (hx : p.tables.exec = Jvm.exec) (hZ : Z.Warmed39 s.vm) {own C : String} {index : Nat} (hown : s.vm.findClass own = some m.cls) (w1 : (Jvm.Cond.classLink own index C).before a0 Z = true) (w2 : (Jvm.Cond.arrayOver (.object C)).before a0 Z = true) (eT : T.heap = h) (hd : decode c.code pc = .ok (.anewarray index, 3)) {n : Int32} (hn : ¬ n < 0) {cap : Nat} (hcap : n.toNatClampNeg ≤ cap) (hb : cap * 8 ≤ 536870912) (hc : cells + 1 ≤ R.cells) (hl : slots + cap ≤ R.slots) (hp : pc + 3 = pc') (k : ∀ T' h', Stand p l e R s m args below meth c T' locs (cells + 1) (slots + cap) → T'.heap = h' → ∀ cA, Ext h h' → ∀ b, b = h.size → Arr Z h' b (newA cA (.object C) n) (.object C) → Ends p.tables e below (T'.setTop (mkF m pc' ls (.ref b :: st))) P) : Ends p.tables e below (T.setTop (mkF m pc ls (.int n :: st))) P := by
  subst hp
  obtain ⟨T', h', cA, X', e', E, A, -, s'⟩ := newR X hx hZ hown w1 w2 eT (g := mkF m pc ls (.int n :: st)) rfl hd rfl hn hcap hb hc hl
  exact own_via s' (k T' h' X' e' cA E _ rfl A)
theorem s_stI (X : Stand p l e R s m args below meth c T locs cells slots) (hx : p.tables.exec = Jvm.exec) (hZ : Z.Warmed39 s.vm) (eT : T.heap = h) {a : Addr} {cl : Cell} (A : Arr Z h a cl .int) {j : Int32} {x : Int32} (hj : ¬ (j < 0 ∨ cl.slots.size ≤ j.toNatClampNeg)) (hd : decode c.code pc = .ok (.iastore, 1)) (hp : pc + 1 = pc') (k : ∀ T' h', Stand p l e R s m args below meth c T' (locs ++ [⟨a, j.toNatClampNeg⟩]) cells slots → T'.heap = h' → Wr h h' a j.toNatClampNeg (.int x) → Ends p.tables e below (T'.setTop (mkF m pc' ls st)) P) : Ends p.tables e below (T.setTop (mkF m pc ls (.int x :: .int j :: .ref a :: st))) P := by
  subst hp
  obtain ⟨T', h', X', e', W, s'⟩ := stI X hx hZ eT A (j := j) hj (g := mkF m pc ls (.int x :: .int j :: .ref a :: st)) rfl rfl hd
  exact own_via s' (k T' h' X' e' W)
theorem s_stJ (X : Stand p l e R s m args below meth c T locs cells slots) (hx : p.tables.exec = Jvm.exec) (hZ : Z.Warmed39 s.vm) (eT : T.heap = h) {a : Addr} {cl : Cell} (A : Arr Z h a cl .long) {j : Int32} {x : Int64} (hj : ¬ (j < 0 ∨ cl.slots.size ≤ j.toNatClampNeg)) (hd : decode c.code pc = .ok (.lastore, 1)) (hp : pc + 1 = pc') (k : ∀ T' h', Stand p l e R s m args below meth c T' (locs ++ [⟨a, j.toNatClampNeg⟩]) cells slots → T'.heap = h' → Wr h h' a j.toNatClampNeg (.long x) → Ends p.tables e below (T'.setTop (mkF m pc' ls st)) P) : Ends p.tables e below (T.setTop (mkF m pc ls (.long x :: .int j :: .ref a :: st))) P := by
  subst hp
  obtain ⟨T', h', X', e', W, s'⟩ := stJ X hx hZ eT A (j := j) hj (g := mkF m pc ls (.long x :: .int j :: .ref a :: st)) rfl rfl hd
  exact own_via s' (k T' h' X' e' W)
theorem s_stC (X : Stand p l e R s m args below meth c T locs cells slots) (hx : p.tables.exec = Jvm.exec) (hZ : Z.Warmed39 s.vm) (eT : T.heap = h) {a : Addr} {cl : Cell} (A : Arr Z h a cl .char) {j : Int32} {x : Int32} (hj : ¬ (j < 0 ∨ cl.slots.size ≤ j.toNatClampNeg)) (hd : decode c.code pc = .ok (.castore, 1)) (hp : pc + 1 = pc') (k : ∀ T' h', Stand p l e R s m args below meth c T' (locs ++ [⟨a, j.toNatClampNeg⟩]) cells slots → T'.heap = h' → Wr h h' a j.toNatClampNeg (.int (nar .char x)) → Ends p.tables e below (T'.setTop (mkF m pc' ls st)) P) : Ends p.tables e below (T.setTop (mkF m pc ls (.int x :: .int j :: .ref a :: st))) P := by
  subst hp
  obtain ⟨T', h', X', e', W, s'⟩ := stC X hx hZ eT A (j := j) hj (g := mkF m pc ls (.int x :: .int j :: .ref a :: st)) rfl rfl hd
  exact own_via s' (k T' h' X' e' W)
theorem s_stB (X : Stand p l e R s m args below meth c T locs cells slots) (hx : p.tables.exec = Jvm.exec) (hZ : Z.Warmed39 s.vm) (eT : T.heap = h) {a : Addr} {cl : Cell} (A : Arr Z h a cl .byte) {j : Int32} {x : Int32} (hj : ¬ (j < 0 ∨ cl.slots.size ≤ j.toNatClampNeg)) (hd : decode c.code pc = .ok (.bastore, 1)) (hp : pc + 1 = pc') (k : ∀ T' h', Stand p l e R s m args below meth c T' (locs ++ [⟨a, j.toNatClampNeg⟩]) cells slots → T'.heap = h' → Wr h h' a j.toNatClampNeg (.int (nar .byte x)) → Ends p.tables e below (T'.setTop (mkF m pc' ls st)) P) : Ends p.tables e below (T.setTop (mkF m pc ls (.int x :: .int j :: .ref a :: st))) P := by
  subst hp
  obtain ⟨T', h', X', e', W, s'⟩ := stB X hx hZ eT A (j := j) hj (g := mkF m pc ls (.int x :: .int j :: .ref a :: st)) rfl rfl hd
  exact own_via s' (k T' h' X' e' W)
theorem s_stN (X : Stand p l e R s m args below meth c T locs cells slots) (hx : p.tables.exec = Jvm.exec) (hZ : Z.Warmed39 s.vm) (eT : T.heap = h) {a : Addr} {cl : Cell} {ty : FieldType} (A : Arr Z h a cl ty) (hr : ty.isReference = true) {j : Int32} (hj : ¬ (j < 0 ∨ cl.slots.size ≤ j.toNatClampNeg)) (hd : decode c.code pc = .ok (.aastore, 1)) (hp : pc + 1 = pc') (k : ∀ T' h', Stand p l e R s m args below meth c T' (locs ++ [⟨a, j.toNatClampNeg⟩]) cells slots → T'.heap = h' → Wr h h' a j.toNatClampNeg .null → Ends p.tables e below (T'.setTop (mkF m pc' ls st)) P) : Ends p.tables e below (T.setTop (mkF m pc ls (.null :: .int j :: .ref a :: st))) P := by
  subst hp
  obtain ⟨T', h', X', e', W, s'⟩ := stR X hx hZ eT A (j := j) hj hr (Or.inl rfl) (g := mkF m pc ls (.null :: .int j :: .ref a :: st)) rfl rfl hd
  exact own_via s' (k T' h' X' e' W)
theorem s_iaload (X : Stand p l e R s m args below meth c T locs cells slots) (hx : p.tables.exec = Jvm.exec) (hZ : Z.Warmed39 s.vm) (eT : T.heap = h) {a : Addr} {k : ClassId} {z : Int32} {vs : List Value} {dv v : Value} {j : Int32} (F : Arv Z h a k .int z vs dv) (hj : ¬ j < 0 ∧ j < z) (hv : vs.getD j.toNatClampNeg dv = v) (hd : decode c.code pc = .ok (.iaload, 1)) (hp : pc + 1 = pc') (hr : Ends p.tables e below (T.setTop (mkF m pc' ls (v :: st))) P) : Ends p.tables e below (T.setTop (mkF m pc ls (.int j :: .ref a :: st))) P := by
  subst hp
  obtain ⟨cl, A, -, S, M, H, -⟩ := F
  have hin := inb_of S hj
  exact own_via (X.iaload hx (j := j) (v := v) (by rw [eT]; exact A.1) (State.isArrayOf_alike hZ.alike A.2.1) A.2.2 hin (H.at hin hv) (g := mkF m pc ls (.int j :: .ref a :: st)) rfl rfl hd) hr
theorem s_laload (X : Stand p l e R s m args below meth c T locs cells slots) (hx : p.tables.exec = Jvm.exec) (hZ : Z.Warmed39 s.vm) (eT : T.heap = h) {a : Addr} {k : ClassId} {z : Int32} {vs : List Value} {dv v : Value} {j : Int32} (F : Arv Z h a k .long z vs dv) (hj : ¬ j < 0 ∧ j < z) (hv : vs.getD j.toNatClampNeg dv = v) (hd : decode c.code pc = .ok (.laload, 1)) (hp : pc + 1 = pc') (hr : Ends p.tables e below (T.setTop (mkF m pc' ls (v :: st))) P) : Ends p.tables e below (T.setTop (mkF m pc ls (.int j :: .ref a :: st))) P := by
  subst hp
  obtain ⟨cl, A, -, S, M, H, -⟩ := F
  have hin := inb_of S hj
  exact own_via (X.laload hx (j := j) (v := v) (by rw [eT]; exact A.1) (State.isArrayOf_alike hZ.alike A.2.1) A.2.2 hin (H.at hin hv) (g := mkF m pc ls (.int j :: .ref a :: st)) rfl rfl hd) hr
theorem s_caload (X : Stand p l e R s m args below meth c T locs cells slots) (hx : p.tables.exec = Jvm.exec) (hZ : Z.Warmed39 s.vm) (eT : T.heap = h) {a : Addr} {k : ClassId} {z : Int32} {vs : List Value} {dv v : Value} {j : Int32} (F : Arv Z h a k .char z vs dv) (hj : ¬ j < 0 ∧ j < z) (hv : vs.getD j.toNatClampNeg dv = v) (hd : decode c.code pc = .ok (.caload, 1)) (hp : pc + 1 = pc') (hr : Ends p.tables e below (T.setTop (mkF m pc' ls (v :: st))) P) : Ends p.tables e below (T.setTop (mkF m pc ls (.int j :: .ref a :: st))) P := by
  subst hp
  obtain ⟨cl, A, -, S, M, H, -⟩ := F
  have hin := inb_of S hj
  exact own_via (X.caload hx (j := j) (v := v) (by rw [eT]; exact A.1) (State.isArrayOf_alike hZ.alike A.2.1) A.2.2 hin (H.at hin hv) (g := mkF m pc ls (.int j :: .ref a :: st)) rfl rfl hd) hr
theorem s_baload (X : Stand p l e R s m args below meth c T locs cells slots) (hx : p.tables.exec = Jvm.exec) (hZ : Z.Warmed39 s.vm) (eT : T.heap = h) {a : Addr} {k : ClassId} {z : Int32} {vs : List Value} {dv v : Value} {j : Int32} (F : Arv Z h a k .byte z vs dv) (hj : ¬ j < 0 ∧ j < z) (hv : vs.getD j.toNatClampNeg dv = v) (hd : decode c.code pc = .ok (.baload, 1)) (hp : pc + 1 = pc') (hr : Ends p.tables e below (T.setTop (mkF m pc' ls (v :: st))) P) : Ends p.tables e below (T.setTop (mkF m pc ls (.int j :: .ref a :: st))) P := by
  subst hp
  obtain ⟨cl, A, -, S, M, H, -⟩ := F
  have hin := inb_of S hj
  exact own_via (X.baloadBytes hx (j := j) (v := v) (by rw [eT]; exact A.1) (State.isArrayOf_alike hZ.alike A.2.1) A.2.2 hin (H.at hin hv) (g := mkF m pc ls (.int j :: .ref a :: st)) rfl rfl hd) hr
theorem s_arraylength (X : Stand p l e R s m args below meth c T locs cells slots) (hx : p.tables.exec = Jvm.exec) (hZ : Z.Warmed39 s.vm) (eT : T.heap = h) {a : Addr} {k : ClassId} {ty : FieldType} {z : Int32} {vs : List Value} {dv : Value} (F : Arv Z h a k ty z vs dv) (hd : decode c.code pc = .ok (.arraylength, 1)) (hp : pc + 1 = pc') (hr : Ends p.tables e below (T.setTop (mkF m pc' ls (.int z :: st))) P) : Ends p.tables e below (T.setTop (mkF m pc ls (.ref a :: st))) P := by
  subst hp
  obtain ⟨cl, A, -, S, M, H, -⟩ := F
  refine own_via (X.arraylength hx (by rw [eT]; exact A.1) (State.isArrayOf_alike hZ.alike A.2.1) (g := mkF m pc ls (.ref a :: st)) rfl rfl hd) ?_
  rw [len_of S M]
  exact hr
theorem own_set {a : Addr} {k : ClassId} {ty : FieldType} {z : Int32} {vs : List Value} {dv v : Value} {j : Int32} {cl : Cell} {h' : Heap} (F : ∃ c : Cell, c = cl ∧ Arr Z h a c ty ∧ c.cls = k ∧ c.slots.size = z.toNatClampNeg ∧ ¬ z < 0 ∧ Has c vs dv ∧ ∀ i, i < c.slots.size → fits ty (vs.getD i dv) = true) (hv : fits ty v = true) (W : Wr h h' a j.toNatClampNeg v) (i : Nat) (hj : j.toNatClampNeg = i) (hi : i < vs.length) : Arv Z h' a k ty z (vs.set i v) dv := by
  obtain ⟨c, rfl, A, q1, S, M, H, G⟩ := F
  exact Arv.set A q1 S M H G hv W i hj hi
theorem s_putI (X : Stand p l e R s m args below meth c T locs cells slots) (hx : p.tables.exec = Jvm.exec) (hZ : Z.Warmed39 s.vm) (eT : T.heap = h) {a : Addr} {k : ClassId} {z : Int32} {vs : List Value} {dv : Value} {j : Int32} {x : Int32} (F : Arv Z h a k .int z vs dv) (hj : ¬ j < 0 ∧ j < z) (i : Nat) (hi : j.toNatClampNeg = i) (hl : i < vs.length) (hd : decode c.code pc = .ok (.iastore, 1)) (hp : pc + 1 = pc') (kk : ∀ T' h', Stand p l e R s m args below meth c T' (locs ++ [⟨a, j.toNatClampNeg⟩]) cells slots → T'.heap = h' → Wr h h' a j.toNatClampNeg (.int x) → Arv Z h' a k .int z (vs.set i (.int x)) dv → Ends p.tables e below (T'.setTop (mkF m pc' ls st)) P) : Ends p.tables e below (T.setTop (mkF m pc ls (.int x :: .int j :: .ref a :: st))) P := by
  obtain ⟨cl, A, q1, S, M, H, G⟩ := F
  exact s_stI X hx hZ eT A (inb_of S hj) hd hp fun T' h' X' e' W => kk T' h' X' e' W (Arv.set A q1 S M H G rfl W i hi hl)
theorem s_putJ (X : Stand p l e R s m args below meth c T locs cells slots) (hx : p.tables.exec = Jvm.exec) (hZ : Z.Warmed39 s.vm) (eT : T.heap = h) {a : Addr} {k : ClassId} {z : Int32} {vs : List Value} {dv : Value} {j : Int32} {x : Int64} (F : Arv Z h a k .long z vs dv) (hj : ¬ j < 0 ∧ j < z) (i : Nat) (hi : j.toNatClampNeg = i) (hl : i < vs.length) (hd : decode c.code pc = .ok (.lastore, 1)) (hp : pc + 1 = pc') (kk : ∀ T' h', Stand p l e R s m args below meth c T' (locs ++ [⟨a, j.toNatClampNeg⟩]) cells slots → T'.heap = h' → Wr h h' a j.toNatClampNeg (.long x) → Arv Z h' a k .long z (vs.set i (.long x)) dv → Ends p.tables e below (T'.setTop (mkF m pc' ls st)) P) : Ends p.tables e below (T.setTop (mkF m pc ls (.long x :: .int j :: .ref a :: st))) P := by
  obtain ⟨cl, A, q1, S, M, H, G⟩ := F
  exact s_stJ X hx hZ eT A (inb_of S hj) hd hp fun T' h' X' e' W => kk T' h' X' e' W (Arv.set A q1 S M H G rfl W i hi hl)
theorem s_putC (X : Stand p l e R s m args below meth c T locs cells slots) (hx : p.tables.exec = Jvm.exec) (hZ : Z.Warmed39 s.vm) (eT : T.heap = h) {a : Addr} {k : ClassId} {z : Int32} {vs : List Value} {dv : Value} {j : Int32} {x : Int32} (F : Arv Z h a k .char z vs dv) (hj : ¬ j < 0 ∧ j < z) (i : Nat) (hi : j.toNatClampNeg = i) (hl : i < vs.length) (hd : decode c.code pc = .ok (.castore, 1)) (hp : pc + 1 = pc') (kk : ∀ T' h', Stand p l e R s m args below meth c T' (locs ++ [⟨a, j.toNatClampNeg⟩]) cells slots → T'.heap = h' → Wr h h' a j.toNatClampNeg (.int (nar .char x)) → Arv Z h' a k .char z (vs.set i (.int (nar .char x))) dv → Ends p.tables e below (T'.setTop (mkF m pc' ls st)) P) : Ends p.tables e below (T.setTop (mkF m pc ls (.int x :: .int j :: .ref a :: st))) P := by
  obtain ⟨cl, A, q1, S, M, H, G⟩ := F
  exact s_stC X hx hZ eT A (inb_of S hj) hd hp fun T' h' X' e' W => kk T' h' X' e' W (Arv.set A q1 S M H G (fits_nar_char _) W i hi hl)
theorem s_putB (X : Stand p l e R s m args below meth c T locs cells slots) (hx : p.tables.exec = Jvm.exec) (hZ : Z.Warmed39 s.vm) (eT : T.heap = h) {a : Addr} {k : ClassId} {z : Int32} {vs : List Value} {dv : Value} {j : Int32} {x : Int32} (F : Arv Z h a k .byte z vs dv) (hj : ¬ j < 0 ∧ j < z) (i : Nat) (hi : j.toNatClampNeg = i) (hl : i < vs.length) (hd : decode c.code pc = .ok (.bastore, 1)) (hp : pc + 1 = pc') (kk : ∀ T' h', Stand p l e R s m args below meth c T' (locs ++ [⟨a, j.toNatClampNeg⟩]) cells slots → T'.heap = h' → Wr h h' a j.toNatClampNeg (.int (nar .byte x)) → Arv Z h' a k .byte z (vs.set i (.int (nar .byte x))) dv → Ends p.tables e below (T'.setTop (mkF m pc' ls st)) P) : Ends p.tables e below (T.setTop (mkF m pc ls (.int x :: .int j :: .ref a :: st))) P := by
  obtain ⟨cl, A, q1, S, M, H, G⟩ := F
  exact s_stB X hx hZ eT A (inb_of S hj) hd hp fun T' h' X' e' W => kk T' h' X' e' W (Arv.set A q1 S M H G (fits_nar_byte _) W i hi hl)
theorem s_initO (X : Stand p l e R s m args below meth c T locs cells slots) (hx : p.tables.exec = Jvm.exec) (hZ : Z.Warmed39 s.vm) {own : String} {idx : Nat} (hown : s.vm.findClass own = some m.cls) (w1 : (Jvm.Cond.methodLink own idx Lib.objectInit).before a0 Z = true) (w2 : (Jvm.Cond.instanceMethod Lib.objectInit).before a0 Z = true) (w3 : (Jvm.Cond.code Lib.objectInit ⟨#[0xb1]⟩ 1 none).before a0 Z = true) (eT : T.heap = h) (hsize : ls.size = c.maxLocals) {a : Addr} (hd : decode c.code pc = .ok (.invokespecial idx, 3)) (hf : 1 ≤ R.frames) {W : Nat} (hW : (st.map fun v => v.category).sum ≤ W) (hl : W + 12 ≤ R.locals) (hp : pc + 3 = pc') (k : ∀ T', Stand p l e R s m args below meth c T' locs cells slots → T'.heap = h → Ends p.tables e below (T'.setTop (mkF m pc' ls st)) P) : Ends p.tables e below (T.setTop (mkF m pc ls (.ref a :: st))) P := by
  subst hp
  obtain ⟨T', X', e', s'⟩ := initO X hx hZ hown w1 w2 w3 eT (g := mkF m pc ls (.ref a :: st)) rfl hsize rfl hd hf (W := W) (by show 2 * 0 + _ ≤ _; omega) hl
  exact own_via s' (k T' X' e')
theorem s_castY (X : Stand p l e R s m args below meth c T locs cells slots) (hx : p.tables.exec = Jvm.exec) (hZ : Z.Warmed39 s.vm) {own K : String} {index : Nat} (hown : s.vm.findClass own = some m.cls) (w : (Jvm.Cond.classLink own index K).before a0 Z = true) (eT : T.heap = h) {a : Addr} (F : Ins Z h a K true) (hd : decode c.code pc = .ok (.checkcast index, 3)) (hp : pc + 3 = pc') (k : ∀ T', Stand p l e R s m args below meth c T' locs cells slots → T'.heap = h → Ends p.tables e below (T'.setTop (mkF m pc' ls (.ref a :: st))) P) : Ends p.tables e below (T.setTop (mkF m pc ls (.ref a :: st))) P := by
  subst hp
  obtain ⟨T', X', e', s'⟩ := castY X hx hZ hown w eT F (g := mkF m pc ls (.ref a :: st)) rfl rfl hd
  exact own_via s' (k T' X' e')
theorem s_instY (X : Stand p l e R s m args below meth c T locs cells slots) (hx : p.tables.exec = Jvm.exec) (hZ : Z.Warmed39 s.vm) {own K : String} {index : Nat} (hown : s.vm.findClass own = some m.cls) (w : (Jvm.Cond.classLink own index K).before a0 Z = true) (eT : T.heap = h) {a : Addr} (F : Ins Z h a K true) (hd : decode c.code pc = .ok (.instanceof index, 3)) (hp : pc + 3 = pc') (k : ∀ T', Stand p l e R s m args below meth c T' locs cells slots → T'.heap = h → Ends p.tables e below (T'.setTop (mkF m pc' ls (.int 1 :: st))) P) : Ends p.tables e below (T.setTop (mkF m pc ls (.ref a :: st))) P := by
  subst hp
  obtain ⟨T', X', e', s'⟩ := instY X hx hZ hown w eT F (g := mkF m pc ls (.ref a :: st)) rfl rfl hd
  exact own_via s' (k T' X' e')
theorem s_callS (X : Stand p l e R s m args below meth c T locs cells slots) (hx : p.tables.exec = Jvm.exec) (hZ : Z.Warmed39 s.vm) {y : MethodName} {bytes : ByteArray} {maxL : Nat} {ret : Option FieldType} {rm : Room} {W : Nat} {as' : Array Value} {Q : Option Value → Heap → List Loc → Prop} {own : String} {index : Nat} (hown : s.vm.findClass own = some m.cls) (w1 : (Jvm.Cond.methodLink own index y).before a0 Z = true) (w2 : (Jvm.Cond.static y).before a0 Z = true) (w3 : (Jvm.Cond.initialized y.cls).before a0 Z = true) (w4 : (Jvm.Cond.code y bytes maxL ret).before a0 Z = true) (hy : y.cls ≠ "java/lang/invoke/MethodHandle" ∧ y.cls ≠ "java/lang/invoke/VarHandle") (eT : T.heap = h) (hM : MetFree l y (head1 [Jvm.Cond.code y bytes maxL ret] rm) (fun a U => a = as' ∧ Z.Warmed39 U.vm ∧ U.heap = h) (fun _ _ _ _ _ => True) (fun _ U o U' => ∃ v L, o = .returned v ∧ Q v U'.heap L ∧ FrameEnd U o U' L rm.cells rm.slots)) (hsize : ls.size = c.maxLocals) (argsL rest : List Value) (has : as' = argsL.toArray) (hlen : ∀ sig, parseMethodDescriptor y.desc = some sig → argsL.length = sig.parameters.length) (hstack : st = argsL.reverse ++ rest) (hW : (rest.map fun v => v.category).sum ≤ W) (hf : rm.frames + 1 ≤ R.frames) (hl : W + (maxL + 11) + rm.locals ≤ R.locals) (hce : cells + rm.cells ≤ R.cells) (hsl : slots + rm.slots ≤ R.slots) (hp : pc + 3 = pc') (hd : decode c.code pc = .ok (.invokestatic index, 3)) (k : ∀ T' v L, Stand p l e R s m args below meth c T' (locs ++ L) (cells + rm.cells) (slots + rm.slots) → Q v T'.heap L → Ends p.tables e below (T'.setTop (mkF m pc' ls (v.toList ++ rest))) P) : Ends p.tables e below (T.setTop (mkF m pc ls st)) P := by
  subst hp has hstack
  obtain ⟨v, _, ⟨T', _, _, _⟩, -, X', ⟨L, hQ, e1, e2, e3⟩, s'⟩ := Jvm.LawKit.callS X hx (y := y) hown (mvT hZ w1) (mvT hZ w2) (mvT hZ w3) (mvT hZ w4) hy (backOf (W := W) hM hZ w4 w3 hf hl) (g := mkF m pc ls (argsL.reverse ++ rest)) rfl hsize (argsL := argsL) (rest := rest) hlen rfl (by show 2 * 0 + _ ≤ _; omega) hd (fun _ _ => ⟨rfl, eT, hce, hsl⟩)
  dsimp only [Pt.U, Pt.locs, Pt.cells, Pt.slots] at X' e1 e2 e3 s' hQ
  subst e1 e2 e3
  exact own_via s' (k T' v L X' hQ)
theorem s_callI (X : Stand p l e R s m args below meth c T locs cells slots) (hx : p.tables.exec = Jvm.exec) (hZ : Z.Warmed39 s.vm) {y : MethodName} {bytes : ByteArray} {maxL : Nat} {rm : Room} {W : Nat} {as' : Array Value} {Q : Option Value → Heap → List Loc → Prop} {own : String} {index : Nat} (hy1 : y.name = "<init>") (hown : s.vm.findClass own = some m.cls) (w1 : (Jvm.Cond.methodLink own index y).before a0 Z = true) (w2 : (Jvm.Cond.instanceMethod y).before a0 Z = true) (w3 : (Jvm.Cond.initialized y.cls).before a0 Z = true) (w4 : (Jvm.Cond.code y bytes maxL none).before a0 Z = true) (hy : y.cls ≠ "java/lang/invoke/MethodHandle" ∧ y.cls ≠ "java/lang/invoke/VarHandle") (eT : T.heap = h) (hM : MetFree l y (head1 [Jvm.Cond.code y bytes maxL none] rm) (fun a U => a = as' ∧ Z.Warmed39 U.vm ∧ U.heap = h) (fun _ _ _ _ _ => True) (fun _ U o U' => ∃ v L, o = .returned v ∧ Q v U'.heap L ∧ FrameEnd U o U' L rm.cells rm.slots)) (a : Addr) (hsize : ls.size = c.maxLocals) (argsL rest : List Value) (has : as' = (.ref a :: argsL).toArray) (hlen : ∀ sig, parseMethodDescriptor y.desc = some sig → argsL.length = sig.parameters.length) (hstack : st = argsL.reverse ++ .ref a :: rest) (hW : (rest.map fun v => v.category).sum ≤ W) (hf : rm.frames + 1 ≤ R.frames) (hl : W + (maxL + 11) + rm.locals ≤ R.locals) (hce : cells + rm.cells ≤ R.cells) (hsl : slots + rm.slots ≤ R.slots) (hp : pc + 3 = pc') (hd : decode c.code pc = .ok (.invokespecial index, 3)) (k : ∀ T' v L, Stand p l e R s m args below meth c T' (locs ++ L) (cells + rm.cells) (slots + rm.slots) → Q v T'.heap L → Ends p.tables e below (T'.setTop (mkF m pc' ls (v.toList ++ rest))) P) : Ends p.tables e below (T.setTop (mkF m pc ls st)) P := by
  subst hp has hstack
  obtain ⟨v, _, ⟨T', _, _, _⟩, -, X', ⟨L, hQ, e1, e2, e3⟩, s'⟩ := X.specialBack hx (y := y) hy1 hown (mvT hZ w1) (mvT hZ w2) (mvT hZ w4) hy (backOf (W := W) hM hZ w4 w3 hf hl) (g := mkF m pc ls (argsL.reverse ++ .ref a :: rest)) rfl hsize (Steps.refl _) (a := a) (argsL := argsL) (rest := rest) hlen rfl (by show 2 * 0 + _ ≤ _; omega) hd (fun _ _ => ⟨rfl, eT, hce, hsl⟩)
  dsimp only [Pt.U, Pt.locs, Pt.cells, Pt.slots] at X' e1 e2 e3 s' hQ
  subst e1 e2 e3
  exact own_via (fun t_ k_ => s'.trans k_) (k T' v L X' hQ)
theorem s_callV (X : Stand p l e R s m args below meth c T locs cells slots) (hx : p.tables.exec = Jvm.exec) (hZ : Z.Warmed39 s.vm) {y : MethodName} {bytes : ByteArray} {maxL : Nat} {ret : Option FieldType} {rm : Room} {W : Nat} {as' : Array Value} {Q : Option Value → Heap → List Loc → Prop} {a : Addr} {own C : String} {index : Nat} (hown : s.vm.findClass own = some m.cls) (w1 : (Jvm.Cond.methodLink own index y).before a0 Z = true) (w2 : (Jvm.Cond.declares y).before a0 Z = true) (w3 : (Jvm.Cond.initialized y.cls).before a0 Z = true) (w4 : (Jvm.Cond.code y bytes maxL ret).before a0 Z = true) (w5 : (Jvm.Cond.selects C y y).before a0 Z = true) (w6 : (Jvm.Cond.instanceMethod y).before a0 Z = true) (hy : y.cls ≠ "java/lang/invoke/MethodHandle" ∧ y.cls ≠ "java/lang/invoke/VarHandle") (eT : T.heap = h) (E : Exa Z h a C) (hM : MetFree l y (head1 [Jvm.Cond.code y bytes maxL ret] rm) (fun a U => a = as' ∧ Z.Warmed39 U.vm ∧ U.heap = h) (fun _ _ _ _ _ => True) (fun _ U o U' => ∃ v L, o = .returned v ∧ Q v U'.heap L ∧ FrameEnd U o U' L rm.cells rm.slots)) (hsize : ls.size = c.maxLocals) (argsL rest : List Value) (has : as' = (.ref a :: argsL).toArray) (hlen : ∀ sig, parseMethodDescriptor y.desc = some sig → argsL.length = sig.parameters.length) (hstack : st = argsL.reverse ++ .ref a :: rest) (hW : (rest.map fun v => v.category).sum ≤ W) (hf : rm.frames + 1 ≤ R.frames) (hl : W + (maxL + 11) + rm.locals ≤ R.locals) (hce : cells + rm.cells ≤ R.cells) (hsl : slots + rm.slots ≤ R.slots) (hp : pc + 3 = pc') (hd : decode c.code pc = .ok (.invokevirtual index, 3)) (k : ∀ T' v L, Stand p l e R s m args below meth c T' (locs ++ L) (cells + rm.cells) (slots + rm.slots) → Q v T'.heap L → Ends p.tables e below (T'.setTop (mkF m pc' ls (v.toList ++ rest))) P) : Ends p.tables e below (T.setTop (mkF m pc ls st)) P := by
  subst hp has hstack
  obtain ⟨cq, kq, qa, qb, qc⟩ := isOf hZ eT E
  obtain ⟨v, _, ⟨T', _, _, _⟩, -, X', ⟨L, hQ, e1, e2, e3⟩, s'⟩ := X.virtualBack hx (y := y) (z := y) hown (mvT hZ w1) (mvT hZ w2) (notFace_of_selects (args := #[]) (mvT hZ w5)) (mvT hZ w5) (mvT hZ w6) hy (backOf (W := W) hM hZ w4 w3 hf hl) qa qc (g := mkF m pc ls (argsL.reverse ++ .ref a :: rest)) rfl hsize (Steps.refl _) (argsL := argsL) (rest := rest) hlen rfl (by show 2 * 0 + _ ≤ _; omega) hd (fun _ _ => ⟨rfl, eT, hce, hsl⟩)
  dsimp only [Pt.U, Pt.locs, Pt.cells, Pt.slots] at X' e1 e2 e3 s' hQ
  subst e1 e2 e3
  exact own_via (fun t_ k_ => s'.trans k_) (k T' v L X' hQ)
theorem s_callP (X : Stand p l e R s m args below meth c T locs cells slots) (hx : p.tables.exec = Jvm.exec) (hZ : Z.Warmed39 s.vm) {y : MethodName} {bytes : ByteArray} {maxL : Nat} {ret : Option FieldType} {rm : Room} {W : Nat} {as' : Array Value} {Q : Option Value → Heap → List Loc → Prop} {a : Addr} {own C : String} {index : Nat} {zz : MethodName} (hzz : zz.cls = y.cls) (hown : s.vm.findClass own = some m.cls) (w1 : (Jvm.Cond.methodLink own index y).before a0 Z = true) (w2 : (Jvm.Cond.privateMethod y).before a0 Z = true) (w3 : (Jvm.Cond.initialized y.cls).before a0 Z = true) (w4 : (Jvm.Cond.code y bytes maxL ret).before a0 Z = true) (w5 : (Jvm.Cond.selects zz.cls zz zz).before a0 Z = true) (w6 : (Jvm.Cond.instanceMethod y).before a0 Z = true) (hy : y.cls ≠ "java/lang/invoke/MethodHandle" ∧ y.cls ≠ "java/lang/invoke/VarHandle") (eT : T.heap = h) (E : Exa Z h a C) (hM : MetFree l y (head1 [Jvm.Cond.code y bytes maxL ret] rm) (fun a U => a = as' ∧ Z.Warmed39 U.vm ∧ U.heap = h) (fun _ _ _ _ _ => True) (fun _ U o U' => ∃ v L, o = .returned v ∧ Q v U'.heap L ∧ FrameEnd U o U' L rm.cells rm.slots)) (hsize : ls.size = c.maxLocals) (argsL rest : List Value) (has : as' = (.ref a :: argsL).toArray) (hlen : ∀ sig, parseMethodDescriptor y.desc = some sig → argsL.length = sig.parameters.length) (hstack : st = argsL.reverse ++ .ref a :: rest) (hW : (rest.map fun v => v.category).sum ≤ W) (hf : rm.frames + 1 ≤ R.frames) (hl : W + (maxL + 11) + rm.locals ≤ R.locals) (hce : cells + rm.cells ≤ R.cells) (hsl : slots + rm.slots ≤ R.slots) (hp : pc + 3 = pc') (hd : decode c.code pc = .ok (.invokevirtual index, 3)) (k : ∀ T' v L, Stand p l e R s m args below meth c T' (locs ++ L) (cells + rm.cells) (slots + rm.slots) → Q v T'.heap L → Ends p.tables e below (T'.setTop (mkF m pc' ls (v.toList ++ rest))) P) : Ends p.tables e below (T.setTop (mkF m pc ls st)) P := by
  subst hp has hstack
  obtain ⟨cq, qa, qb⟩ := E.cell
  have hpr := Cond.privateMethod_at (mvP hZ w2 (args := #[]))
  obtain ⟨v, _, ⟨T', _, _, _⟩, -, X', ⟨L, hQ, e1, e2, e3⟩, s'⟩ := X.privateBack hx (y := y) hown (mvT hZ w1) (mvT hZ w6) (own_selPriv hzz (mvT hZ w5) hpr (mvT hZ w6) hy) hpr (mvT hZ w4) hy (backOf (W := W) hM hZ w4 w3 hf hl) (g := mkF m pc ls (argsL.reverse ++ .ref a :: rest)) rfl hsize (Steps.refl _) (a := a) (by rw [eT]; exact qa) qb (argsL := argsL) (rest := rest) hlen rfl (by show 2 * 0 + _ ≤ _; omega) hd (fun _ _ => ⟨rfl, eT, hce, hsl⟩)
  dsimp only [Pt.U, Pt.locs, Pt.cells, Pt.slots] at X' e1 e2 e3 s' hQ
  subst e1 e2 e3
  exact own_via (fun t_ k_ => s'.trans k_) (k T' v L X' hQ)
theorem s_irem (X : Stand p l e R s m args below meth c T locs cells slots) (hx : p.tables.exec = Jvm.exec) {x y : Int32} (hd : decode c.code pc = .ok (.irem, 1)) (hy : y ≠ 0) (hp : pc + 1 = pc') (hr : Ends p.tables e below (T.setTop (mkF m pc' ls (.int (x % y) :: st))) P) : Ends p.tables e below (T.setTop (mkF m pc ls (.int y :: .int x :: st))) P := by
  subst hp
  exact own_via (fun t_ k_ => iremM X hx rfl hd rfl hy k_) hr
theorem s_ldcI (X : Stand p l e R s m args below meth c T locs cells slots) (hx : p.tables.exec = Jvm.exec) (hZ : Z.Warmed39 s.vm) {own : String} {index : Nat} {v : Int32} (hown : s.vm.findClass own = some m.cls) (w : (Jvm.Cond.constant own index v).before a0 Z = true) (hd : decode c.code pc = .ok (.ldc index, 2)) (hp : pc + 2 = pc') (hr : Ends p.tables e below (T.setTop (mkF m pc' ls (.int v :: st))) P) : Ends p.tables e below (T.setTop (mkF m pc ls st)) P := by
  subst hp
  exact own_via (X.ldcInt hx hown (mvT hZ w) (g := mkF m pc ls st) rfl hd) hr
theorem s_ldcJ (X : Stand p l e R s m args below meth c T locs cells slots) (hx : p.tables.exec = Jvm.exec) (hZ : Z.Warmed39 s.vm) {own : String} {index : Nat} {v : Int64} (hown : s.vm.findClass own = some m.cls) (w : (Jvm.Cond.constantLong own index v).before a0 Z = true) (hd : decode c.code pc = .ok (.ldc2_w index, 3)) (hp : pc + 3 = pc') (hr : Ends p.tables e below (T.setTop (mkF m pc' ls (.long v :: st))) P) : Ends p.tables e below (T.setTop (mkF m pc ls st)) P := by
  subst hp
  exact own_via (X.ldc2Long hx hown (mvT hZ w) (g := mkF m pc ls st) rfl hd) hr
theorem s_callSS {vm0 : Vm} (X : Stand p l e R (s.setVm vm0) m args below meth c T locs cells slots) (hx : p.tables.exec = Jvm.exec) (hZ : Z.Warmed39 (s.setVm vm0).vm) {k0 : Nat} (hS : s.Since vm0 k0) (hk : k0 ≤ h.size) {y : MethodName} {bytes : ByteArray} {maxL : Nat} {ret : Option FieldType} {rm : Room} {W : Nat} {as' : Array Value} {Q : Option Value → Heap → List Loc → Prop} {own : String} {index : Nat} (hown : (s.setVm vm0).vm.findClass own = some m.cls) (w1 : (Jvm.Cond.methodLink own index y).before a0 Z = true) (w2 : (Jvm.Cond.static y).before a0 Z = true) (w3 : (Jvm.Cond.initialized y.cls).before a0 Z = true) (w4 : (Jvm.Cond.code y bytes maxL ret).before a0 Z = true) (hy : y.cls ≠ "java/lang/invoke/MethodHandle" ∧ y.cls ≠ "java/lang/invoke/VarHandle") (eT : T.heap = h) (hM : MetFree l y (head1 [Jvm.Cond.code y bytes maxL ret] rm) (fun a U => a = as' ∧ Z.Warmed39 U.vm ∧ U.heap = h) (fun _ _ _ _ _ => True) (fun _ U o U' => ∃ v L, o = .returned v ∧ Q v U'.heap L ∧ ReturnedEndW U o U' L rm.cells rm.slots)) (hsize : ls.size = c.maxLocals) (argsL rest : List Value) (has : as' = argsL.toArray) (hlen : ∀ sig, parseMethodDescriptor y.desc = some sig → argsL.length = sig.parameters.length) (hstack : st = argsL.reverse ++ rest) (hW : (rest.map fun v => v.category).sum ≤ W) (hf : rm.frames + 1 ≤ R.frames) (hl : W + (maxL + 11) + rm.locals ≤ R.locals) (hce : cells + rm.cells ≤ R.cells) (hsl : slots + rm.slots ≤ R.slots) (hp : pc + 3 = pc') (hd : decode c.code pc = .ok (.invokestatic index, 3)) (k : ∀ T' v L, Stand p l e R (s.setVm T'.vm) m args below meth c T' (locs ++ L) (cells + rm.cells) (slots + rm.slots) → s.Since T'.vm T'.heap.size → Z.Warmed39 (s.setVm T'.vm).vm → (s.setVm T'.vm).vm.findClass own = some m.cls → Q v T'.heap L → Ends p.tables e below (T'.setTop (mkF m pc' ls (v.toList ++ rest))) P) : Ends p.tables e below (T.setTop (mkF m pc ls st)) P := by
  subst hp has hstack
  obtain ⟨v, _, ⟨T', _, _, _⟩, -, X', S', g', ⟨L, hQ, e1, e2, e3⟩, s'⟩ := callSS X hx (y := y) hown (mvT hZ w1) (mvT hZ w2) (mvT hZ w3) (mvT hZ w4) hy (backOfS (W := W) hM hZ w4 w3 hf hl) (g := mkF m pc ls (argsL.reverse ++ rest)) rfl hsize (argsL := argsL) (rest := rest) hlen rfl (by show 2 * 0 + _ ≤ _; omega) hd (fun _ _ => ⟨rfl, eT, hce, hsl⟩)
  dsimp only [Pt.U, Pt.locs, Pt.cells, Pt.slots] at X' S' g' e1 e2 e3 s' hQ
  subst e1 e2 e3
  obtain ⟨X2, S2, Z2, o2⟩ := rebS hS (show _ ≤ T.heap.size by rw [eT]; exact hk) X' S' g' hZ hown
  exact own_via (fun t_ k_ => s'.trans k_) (k T' v L X2 S2 Z2 o2 hQ)
theorem s_callIS {vm0 : Vm} (X : Stand p l e R (s.setVm vm0) m args below meth c T locs cells slots) (hx : p.tables.exec = Jvm.exec) (hZ : Z.Warmed39 (s.setVm vm0).vm) {k0 : Nat} (hS : s.Since vm0 k0) (hk : k0 ≤ h.size) {y : MethodName} {bytes : ByteArray} {maxL : Nat} {rm : Room} {W : Nat} {as' : Array Value} {Q : Option Value → Heap → List Loc → Prop} {own : String} {index : Nat} (hown : (s.setVm vm0).vm.findClass own = some m.cls) (hy1 : y.name = "<init>") (w1 : (Jvm.Cond.methodLink own index y).before a0 Z = true) (w2 : (Jvm.Cond.instanceMethod y).before a0 Z = true) (w3 : (Jvm.Cond.initialized y.cls).before a0 Z = true) (w4 : (Jvm.Cond.code y bytes maxL none).before a0 Z = true) (hy : y.cls ≠ "java/lang/invoke/MethodHandle" ∧ y.cls ≠ "java/lang/invoke/VarHandle") (eT : T.heap = h) (hM : MetFree l y (head1 [Jvm.Cond.code y bytes maxL none] rm) (fun a U => a = as' ∧ Z.Warmed39 U.vm ∧ U.heap = h) (fun _ _ _ _ _ => True) (fun _ U o U' => ∃ v L, o = .returned v ∧ Q v U'.heap L ∧ ReturnedEndW U o U' L rm.cells rm.slots)) (a : Addr) (hsize : ls.size = c.maxLocals) (argsL rest : List Value) (has : as' = (.ref a :: argsL).toArray) (hlen : ∀ sig, parseMethodDescriptor y.desc = some sig → argsL.length = sig.parameters.length) (hstack : st = argsL.reverse ++ .ref a :: rest) (hW : (rest.map fun v => v.category).sum ≤ W) (hf : rm.frames + 1 ≤ R.frames) (hl : W + (maxL + 11) + rm.locals ≤ R.locals) (hce : cells + rm.cells ≤ R.cells) (hsl : slots + rm.slots ≤ R.slots) (hp : pc + 3 = pc') (hd : decode c.code pc = .ok (.invokespecial index, 3)) (k : ∀ T' v L, Stand p l e R (s.setVm T'.vm) m args below meth c T' (locs ++ L) (cells + rm.cells) (slots + rm.slots) → s.Since T'.vm T'.heap.size → Z.Warmed39 (s.setVm T'.vm).vm → (s.setVm T'.vm).vm.findClass own = some m.cls → Q v T'.heap L → Ends p.tables e below (T'.setTop (mkF m pc' ls (v.toList ++ rest))) P) : Ends p.tables e below (T.setTop (mkF m pc ls st)) P := by
  subst hp has hstack
  obtain ⟨v, _, ⟨T', _, _, _⟩, -, X', S', g', ⟨L, hQ, e1, e2, e3⟩, s'⟩ := X.specialBackS hx (y := y) hy1 hown (mvT hZ w1) (mvT hZ w2) (mvT hZ w4) hy (backOfS (W := W) hM hZ w4 w3 hf hl) (g := mkF m pc ls (argsL.reverse ++ .ref a :: rest)) rfl hsize (Steps.refl _) (a := a) (argsL := argsL) (rest := rest) hlen rfl (by show 2 * 0 + _ ≤ _; omega) hd (fun _ _ => ⟨rfl, eT, hce, hsl⟩)
  dsimp only [Pt.U, Pt.locs, Pt.cells, Pt.slots] at X' S' g' e1 e2 e3 s' hQ
  subst e1 e2 e3
  obtain ⟨X2, S2, Z2, o2⟩ := rebS hS (show _ ≤ T.heap.size by rw [eT]; exact hk) X' S' g' hZ hown
  exact own_via (fun t_ k_ => s'.trans k_) (k T' v L X2 S2 Z2 o2 hQ)
theorem s_callVS {vm0 : Vm} (X : Stand p l e R (s.setVm vm0) m args below meth c T locs cells slots) (hx : p.tables.exec = Jvm.exec) (hZ : Z.Warmed39 (s.setVm vm0).vm) {k0 : Nat} (hS : s.Since vm0 k0) (hk : k0 ≤ h.size) {y : MethodName} {bytes : ByteArray} {maxL : Nat} {ret : Option FieldType} {rm : Room} {W : Nat} {as' : Array Value} {Q : Option Value → Heap → List Loc → Prop} {a : Addr} {C : String} {own : String} {index : Nat} (hown : (s.setVm vm0).vm.findClass own = some m.cls) (w1 : (Jvm.Cond.methodLink own index y).before a0 Z = true) (w2 : (Jvm.Cond.declares y).before a0 Z = true) (w3 : (Jvm.Cond.initialized y.cls).before a0 Z = true) (w4 : (Jvm.Cond.code y bytes maxL ret).before a0 Z = true) (w5 : (Jvm.Cond.selects C y y).before a0 Z = true) (w6 : (Jvm.Cond.instanceMethod y).before a0 Z = true) (hy : y.cls ≠ "java/lang/invoke/MethodHandle" ∧ y.cls ≠ "java/lang/invoke/VarHandle") (eT : T.heap = h) (E : Exa Z h a C) (hM : MetFree l y (head1 [Jvm.Cond.code y bytes maxL ret] rm) (fun a U => a = as' ∧ Z.Warmed39 U.vm ∧ U.heap = h) (fun _ _ _ _ _ => True) (fun _ U o U' => ∃ v L, o = .returned v ∧ Q v U'.heap L ∧ ReturnedEndW U o U' L rm.cells rm.slots)) (hsize : ls.size = c.maxLocals) (argsL rest : List Value) (has : as' = (.ref a :: argsL).toArray) (hlen : ∀ sig, parseMethodDescriptor y.desc = some sig → argsL.length = sig.parameters.length) (hstack : st = argsL.reverse ++ .ref a :: rest) (hW : (rest.map fun v => v.category).sum ≤ W) (hf : rm.frames + 1 ≤ R.frames) (hl : W + (maxL + 11) + rm.locals ≤ R.locals) (hce : cells + rm.cells ≤ R.cells) (hsl : slots + rm.slots ≤ R.slots) (hp : pc + 3 = pc') (hd : decode c.code pc = .ok (.invokevirtual index, 3)) (k : ∀ T' v L, Stand p l e R (s.setVm T'.vm) m args below meth c T' (locs ++ L) (cells + rm.cells) (slots + rm.slots) → s.Since T'.vm T'.heap.size → Z.Warmed39 (s.setVm T'.vm).vm → (s.setVm T'.vm).vm.findClass own = some m.cls → Q v T'.heap L → Ends p.tables e below (T'.setTop (mkF m pc' ls (v.toList ++ rest))) P) : Ends p.tables e below (T.setTop (mkF m pc ls st)) P := by
  subst hp has hstack
  obtain ⟨cq, kq, qa, qb, qc⟩ := isOf hZ eT E
  obtain ⟨v, _, ⟨T', _, _, _⟩, -, X', S', g', ⟨L, hQ, e1, e2, e3⟩, s'⟩ := X.virtualBackS hx (y := y) (z := y) hown (mvT hZ w1) (mvT hZ w2) (notFace_of_selects (args := #[]) (mvT hZ w5)) (mvT hZ w5) (mvT hZ w6) hy (backOfS (W := W) hM hZ w4 w3 hf hl) qa qc (g := mkF m pc ls (argsL.reverse ++ .ref a :: rest)) rfl hsize (Steps.refl _) (argsL := argsL) (rest := rest) hlen rfl (by show 2 * 0 + _ ≤ _; omega) hd (fun _ _ => ⟨rfl, eT, hce, hsl⟩)
  dsimp only [Pt.U, Pt.locs, Pt.cells, Pt.slots] at X' S' g' e1 e2 e3 s' hQ
  subst e1 e2 e3
  obtain ⟨X2, S2, Z2, o2⟩ := rebS hS (show _ ≤ T.heap.size by rw [eT]; exact hk) X' S' g' hZ hown
  exact own_via (fun t_ k_ => s'.trans k_) (k T' v L X2 S2 Z2 o2 hQ)
theorem s_ldcS {vm0 : Vm} (X : Stand p l e R (s.setVm vm0) m args below meth c T locs cells slots) (hx : p.tables.exec = Jvm.exec) (hZ : Z.Warmed39 (s.setVm vm0).vm) {k0 : Nat} (hS : s.Since vm0 k0) (hk : k0 ≤ h.size) {own : String} {index : Nat} (hown : (s.setVm vm0).vm.findClass own = some m.cls) {text : String} (w : (Jvm.Cond.stringLink own index text).before a0 Z = true) (wS : ∀ a ∈ Bundle.stringAtoms, a.before a0 Z = true) (eT : T.heap = h) (hd : decode c.code pc = .ok (.ldc index, 2)) {n : Nat} (hn : 4 * text.toList.length ≤ n) (hbig : n ≤ 536870912) (hc : cells + 2 ≤ R.cells) (hl : slots + (n + 4) ≤ R.slots) (hp : pc + 2 = pc') (k : ∀ a T' h' k1, Stand p l e R (s.setVm T'.vm) m args below meth c T' locs (cells + 2) (slots + (n + 4)) → T'.heap = h' → Ext h h' → s.Since T'.vm k1 → k1 ≤ h'.size → Z.Warmed39 (s.setVm T'.vm).vm → (s.setVm T'.vm).vm.findClass own = some m.cls → Ends p.tables e below (T'.setTop (mkF m pc' ls (.ref a :: st))) P) : Ends p.tables e below (T.setTop (mkF m pc ls st)) P := by
  subst hp
  obtain ⟨a, T', h', k1, X', e', E', S', g', Z', o', s'⟩ := ldcS X hx hZ hown w wS eT hS hk (g := mkF m pc ls st) rfl hd hn hbig hc hl
  exact own_via s' (k a T' h' k1 X' e' E' S' g' Z' o')
theorem s_ldcSW {vm0 : Vm} (X : Stand p l e R (s.setVm vm0) m args below meth c T locs cells slots) (hx : p.tables.exec = Jvm.exec) (hZ : Z.Warmed39 (s.setVm vm0).vm) {k0 : Nat} (hS : s.Since vm0 k0) (hk : k0 ≤ h.size) {own : String} {index : Nat} (hown : (s.setVm vm0).vm.findClass own = some m.cls) {text : String} (w : (Jvm.Cond.stringLink own index text).before a0 Z = true) (wS : ∀ a ∈ Bundle.stringAtoms, a.before a0 Z = true) (eT : T.heap = h) (hd : decode c.code pc = .ok (.ldc_w index, 3)) {n : Nat} (hn : 4 * text.toList.length ≤ n) (hbig : n ≤ 536870912) (hc : cells + 2 ≤ R.cells) (hl : slots + (n + 4) ≤ R.slots) (hp : pc + 3 = pc') (k : ∀ a T' h' k1, Stand p l e R (s.setVm T'.vm) m args below meth c T' locs (cells + 2) (slots + (n + 4)) → T'.heap = h' → Ext h h' → s.Since T'.vm k1 → k1 ≤ h'.size → Z.Warmed39 (s.setVm T'.vm).vm → (s.setVm T'.vm).vm.findClass own = some m.cls → Ends p.tables e below (T'.setTop (mkF m pc' ls (.ref a :: st))) P) : Ends p.tables e below (T.setTop (mkF m pc ls st)) P := by
  subst hp
  obtain ⟨a, T', h', k1, X', e', E', S', g', Z', o', s'⟩ := ldcSW X hx hZ hown w wS eT hS hk (g := mkF m pc ls st) rfl hd hn hbig hc hl
  exact own_via s' (k a T' h' k1 X' e' E' S' g' Z' o')
end OwnLaws

theorem own_lenL {args : Array Value} {first s : State} {o : Option Outcome} {idx : List Nat} {t : Term} {a : Addr} {cl : Cell} {z : Int32} (ht : t.eval args first o idx s = some (.ref a)) (ha : s.arrayAt? a = some cl) (h : (Jvm.Cond.eq (.length t) (.int z)).value args first o s idx = some true) : cl.slots.size < 2 ^ 31 ∧ cl.slots.size.toInt32 = z := by
  obtain ⟨x, y, hx, hy, k1, k2⟩ := cmp_v (Or.inl h)
  have hy' : y = .int z := Option.some.inj (hy.symm.trans (Term.int_eval z))
  subst hy'
  by_cases q : cl.slots.size < 2 ^ 31
  · have e := len_f (args := args) (first := first) (o := o) (idx := idx) ht ha q
    refine ⟨q, ?_⟩
    simpa [Cond.value, e, hy] using h
  · exact absurd hx (by simp [Term.eval, ht, ha, q])
theorem own_elemL {args : Array Value} {first s : State} {o : Option Outcome} {idx : List Nat} {t : Term} {a : Addr} {cl : Cell} {j : Int32} {z : Int64} (ht : t.eval args first o idx s = some (.ref a)) (hc : s.heap[a]? = some cl) (h : (Jvm.Cond.eq (.elem t (.int j)) (.long z)).value args first o s idx = some true) : cl.slots[j.toNatClampNeg]? = some (.long z) := by
  obtain ⟨x, y, hx, hy, k1, k2⟩ := cmp_v (Or.inl h)
  have hy' : y = .long z := Option.some.inj (hy.symm.trans (long_at z))
  subst hy'
  obtain ⟨w, rfl⟩ := k2
  have q := (elem_in hx ht (Term.int_eval j) hc).2
  have e : w = z := by simpa [Cond.value, hx, hy] using h
  rw [q, e]
theorem own_k9 (k : Int32) : 0 ≤ ((k &&& (255 : Int32)) % (9 : Int32)).toInt := by
  have hm := c_mask k 255 8 (by decide) (by decide)
  have hr := (c_irem (k &&& (255 : Int32)) 9 9 (by decide)).1 (by omega)
  omega
theorem own_m56 (x : Int64) : 0 ≤ (x &&& (72057594037927935 : Int64)).toInt ∧ (x &&& (72057594037927935 : Int64)).toInt ≤ 72057594037927935 := by
  have h := c_maskL x 72057594037927935 56 (by decide) (by decide)
  omega
theorem own_m33 (x : Int64) : 0 ≤ (x &&& (8589934591 : Int64)).toInt ∧ (x &&& (8589934591 : Int64)).toInt ≤ 72057594037927935 := by
  have h := c_maskL x 8589934591 33 (by decide) (by decide)
  omega
theorem own_u8 (x : Int64) : 0 ≤ ((x.toUInt64 >>> ((8 : Int32) &&& 0x3f).toInt64.toUInt64).toInt64).toInt ∧ ((x.toUInt64 >>> ((8 : Int32) &&& 0x3f).toInt64.toUInt64).toInt64).toInt ≤ 72057594037927935 := by
  have h := c_lushr x 8 8 (by decide) (by decide)
  omega
theorem own_bd {ka kb : Int32} {xa xb xp : Int64} (a0 : 0 ≤ ka.toInt) (b0 : 0 ≤ kb.toInt) (ha : 0 ≤ xa.toInt ∧ xa.toInt ≤ 72057594037927935) (hb : 0 ≤ xb.toInt ∧ xb.toInt ≤ 72057594037927935) (hp : 0 ≤ xp.toInt ∧ xp.toInt ≤ 72057594037927935) (h4 : ¬ (4 : Int32) < ka) (h3 : ¬ (3 : Int32) < kb) :
    ¬ (((ka.toInt64 * xa) - (kb.toInt64 * xb)) + xp) < (-288230376151711744 : Int64) ∧ ¬ (576460752303423488 : Int64) < (((ka.toInt64 * xa) - (kb.toInt64 * xb)) + xp) := by
  rw [Int32.lt_iff_toInt_lt] at h4 h3
  have e4 : (4 : Int32).toInt = 4 := by decide
  have e3 : (3 : Int32).toInt = 3 := by decide
  have q1 : (-288230376151711744 : Int64).toInt = -288230376151711744 := by decide
  have q2 : (576460752303423488 : Int64).toInt = 576460752303423488 := by decide
  have p1 : 0 ≤ ka.toInt * xa.toInt := Int.mul_nonneg a0 ha.1
  have p2 : ka.toInt * xa.toInt ≤ 4 * 72057594037927935 := Int.mul_le_mul (by omega) ha.2 ha.1 (by decide)
  have p3 : 0 ≤ kb.toInt * xb.toInt := Int.mul_nonneg b0 hb.1
  have p4 : kb.toInt * xb.toInt ≤ 3 * 72057594037927935 := Int.mul_le_mul (by omega) hb.2 hb.1 (by decide)
  have m1 := c_lmul ka.toInt64 xa
  have m2 := c_lmul kb.toInt64 xb
  rw [c_i2l] at m1 m2
  have s1 := c_lsub (ka.toInt64 * xa) (kb.toInt64 * xb)
  have s2 := c_ladd ((ka.toInt64 * xa) - (kb.toInt64 * xb)) xp
  have r1 := rng64 (ka.toInt64 * xa)
  have r2 := rng64 (kb.toInt64 * xb)
  have r3 := rng64 ((ka.toInt64 * xa) - (kb.toInt64 * xb))
  have r4 := rng64 (((ka.toInt64 * xa) - (kb.toInt64 * xb)) + xp)
  rw [Int64.lt_iff_toInt_lt, Int64.lt_iff_toInt_lt]
  generalize ka.toInt * xa.toInt = A at *
  generalize kb.toInt * xb.toInt = B at *
  omega
theorem own_d1_0 : decode prog_16_method_10_code 0 = .ok (.aload_n 0, 1) := by decide +kernel
theorem own_d1_1 : decode prog_16_method_10_code 1 = .ok (.iconst 0, 1) := by decide +kernel
theorem own_d1_2 : decode prog_16_method_10_code 2 = .ok (.iload_n 1, 1) := by decide +kernel
theorem own_d1_3 : decode prog_16_method_10_code 3 = .ok (.i2l, 1) := by decide +kernel
theorem own_d1_4 : decode prog_16_method_10_code 4 = .ok (.aload_n 2, 1) := by decide +kernel
theorem own_d1_5 : decode prog_16_method_10_code 5 = .ok (.iconst 0, 1) := by decide +kernel
theorem own_d1_6 : decode prog_16_method_10_code 6 = .ok (.laload, 1) := by decide +kernel
theorem own_d1_7 : decode prog_16_method_10_code 7 = .ok (.lmul, 1) := by decide +kernel
theorem own_d1_8 : decode prog_16_method_10_code 8 = .ok (.iload_n 3, 1) := by decide +kernel
theorem own_d1_9 : decode prog_16_method_10_code 9 = .ok (.i2l, 1) := by decide +kernel
theorem own_d1_10 : decode prog_16_method_10_code 10 = .ok (.aload 4, 2) := by decide +kernel
theorem own_d1_12 : decode prog_16_method_10_code 12 = .ok (.iconst 0, 1) := by decide +kernel
theorem own_d1_13 : decode prog_16_method_10_code 13 = .ok (.laload, 1) := by decide +kernel
theorem own_d1_14 : decode prog_16_method_10_code 14 = .ok (.lmul, 1) := by decide +kernel
theorem own_d1_15 : decode prog_16_method_10_code 15 = .ok (.lsub, 1) := by decide +kernel
theorem own_d1_16 : decode prog_16_method_10_code 16 = .ok (.getstatic 62, 3) := by decide +kernel
theorem own_d1_19 : decode prog_16_method_10_code 19 = .ok (.iconst 0, 1) := by decide +kernel
theorem own_d1_20 : decode prog_16_method_10_code 20 = .ok (.laload, 1) := by decide +kernel
theorem own_d1_21 : decode prog_16_method_10_code 21 = .ok (.ladd, 1) := by decide +kernel
theorem own_d1_22 : decode prog_16_method_10_code 22 = .ok (.lastore, 1) := by decide +kernel
theorem own_d1_23 : decode prog_16_method_10_code 23 = .ok (.aload_n 0, 1) := by decide +kernel
theorem own_d1_24 : decode prog_16_method_10_code 24 = .ok (.iconst 1, 1) := by decide +kernel
theorem own_d1_25 : decode prog_16_method_10_code 25 = .ok (.iload_n 1, 1) := by decide +kernel
theorem own_d1_26 : decode prog_16_method_10_code 26 = .ok (.i2l, 1) := by decide +kernel
theorem own_d1_27 : decode prog_16_method_10_code 27 = .ok (.aload_n 2, 1) := by decide +kernel
theorem own_d1_28 : decode prog_16_method_10_code 28 = .ok (.iconst 1, 1) := by decide +kernel
theorem own_d1_29 : decode prog_16_method_10_code 29 = .ok (.laload, 1) := by decide +kernel
theorem own_d1_30 : decode prog_16_method_10_code 30 = .ok (.lmul, 1) := by decide +kernel
theorem own_d1_31 : decode prog_16_method_10_code 31 = .ok (.iload_n 3, 1) := by decide +kernel
theorem own_d1_32 : decode prog_16_method_10_code 32 = .ok (.i2l, 1) := by decide +kernel
theorem own_d1_33 : decode prog_16_method_10_code 33 = .ok (.aload 4, 2) := by decide +kernel
theorem own_d1_35 : decode prog_16_method_10_code 35 = .ok (.iconst 1, 1) := by decide +kernel
theorem own_d1_36 : decode prog_16_method_10_code 36 = .ok (.laload, 1) := by decide +kernel
theorem own_d1_37 : decode prog_16_method_10_code 37 = .ok (.lmul, 1) := by decide +kernel
theorem own_d1_38 : decode prog_16_method_10_code 38 = .ok (.lsub, 1) := by decide +kernel
theorem own_d1_39 : decode prog_16_method_10_code 39 = .ok (.getstatic 62, 3) := by decide +kernel
theorem own_d1_42 : decode prog_16_method_10_code 42 = .ok (.iconst 1, 1) := by decide +kernel
theorem own_d1_43 : decode prog_16_method_10_code 43 = .ok (.laload, 1) := by decide +kernel
theorem own_d1_44 : decode prog_16_method_10_code 44 = .ok (.ladd, 1) := by decide +kernel
theorem own_d1_45 : decode prog_16_method_10_code 45 = .ok (.lastore, 1) := by decide +kernel
theorem own_d1_46 : decode prog_16_method_10_code 46 = .ok (.aload_n 0, 1) := by decide +kernel
theorem own_d1_47 : decode prog_16_method_10_code 47 = .ok (.iconst 2, 1) := by decide +kernel
theorem own_d1_48 : decode prog_16_method_10_code 48 = .ok (.iload_n 1, 1) := by decide +kernel
theorem own_d1_49 : decode prog_16_method_10_code 49 = .ok (.i2l, 1) := by decide +kernel
theorem own_d1_50 : decode prog_16_method_10_code 50 = .ok (.aload_n 2, 1) := by decide +kernel
theorem own_d1_51 : decode prog_16_method_10_code 51 = .ok (.iconst 2, 1) := by decide +kernel
theorem own_d1_52 : decode prog_16_method_10_code 52 = .ok (.laload, 1) := by decide +kernel
theorem own_d1_53 : decode prog_16_method_10_code 53 = .ok (.lmul, 1) := by decide +kernel
theorem own_d1_54 : decode prog_16_method_10_code 54 = .ok (.iload_n 3, 1) := by decide +kernel
theorem own_d1_55 : decode prog_16_method_10_code 55 = .ok (.i2l, 1) := by decide +kernel
theorem own_d1_56 : decode prog_16_method_10_code 56 = .ok (.aload 4, 2) := by decide +kernel
theorem own_d1_58 : decode prog_16_method_10_code 58 = .ok (.iconst 2, 1) := by decide +kernel
theorem own_d1_59 : decode prog_16_method_10_code 59 = .ok (.laload, 1) := by decide +kernel
theorem own_d1_60 : decode prog_16_method_10_code 60 = .ok (.lmul, 1) := by decide +kernel
theorem own_d1_61 : decode prog_16_method_10_code 61 = .ok (.lsub, 1) := by decide +kernel
theorem own_d1_62 : decode prog_16_method_10_code 62 = .ok (.getstatic 62, 3) := by decide +kernel
theorem own_d1_65 : decode prog_16_method_10_code 65 = .ok (.iconst 2, 1) := by decide +kernel
theorem own_d1_66 : decode prog_16_method_10_code 66 = .ok (.laload, 1) := by decide +kernel
theorem own_d1_67 : decode prog_16_method_10_code 67 = .ok (.ladd, 1) := by decide +kernel
theorem own_d1_68 : decode prog_16_method_10_code 68 = .ok (.lastore, 1) := by decide +kernel
theorem own_d1_69 : decode prog_16_method_10_code 69 = .ok (.aload_n 0, 1) := by decide +kernel
theorem own_d1_70 : decode prog_16_method_10_code 70 = .ok (.iconst 3, 1) := by decide +kernel
theorem own_d1_71 : decode prog_16_method_10_code 71 = .ok (.iload_n 1, 1) := by decide +kernel
theorem own_d1_72 : decode prog_16_method_10_code 72 = .ok (.i2l, 1) := by decide +kernel
theorem own_d1_73 : decode prog_16_method_10_code 73 = .ok (.aload_n 2, 1) := by decide +kernel
theorem own_d1_74 : decode prog_16_method_10_code 74 = .ok (.iconst 3, 1) := by decide +kernel
theorem own_d1_75 : decode prog_16_method_10_code 75 = .ok (.laload, 1) := by decide +kernel
theorem own_d1_76 : decode prog_16_method_10_code 76 = .ok (.lmul, 1) := by decide +kernel
theorem own_d1_77 : decode prog_16_method_10_code 77 = .ok (.iload_n 3, 1) := by decide +kernel
theorem own_d1_78 : decode prog_16_method_10_code 78 = .ok (.i2l, 1) := by decide +kernel
theorem own_d1_79 : decode prog_16_method_10_code 79 = .ok (.aload 4, 2) := by decide +kernel
theorem own_d1_81 : decode prog_16_method_10_code 81 = .ok (.iconst 3, 1) := by decide +kernel
theorem own_d1_82 : decode prog_16_method_10_code 82 = .ok (.laload, 1) := by decide +kernel
theorem own_d1_83 : decode prog_16_method_10_code 83 = .ok (.lmul, 1) := by decide +kernel
theorem own_d1_84 : decode prog_16_method_10_code 84 = .ok (.lsub, 1) := by decide +kernel
theorem own_d1_85 : decode prog_16_method_10_code 85 = .ok (.getstatic 62, 3) := by decide +kernel
theorem own_d1_88 : decode prog_16_method_10_code 88 = .ok (.iconst 3, 1) := by decide +kernel
theorem own_d1_89 : decode prog_16_method_10_code 89 = .ok (.laload, 1) := by decide +kernel
theorem own_d1_90 : decode prog_16_method_10_code 90 = .ok (.ladd, 1) := by decide +kernel
theorem own_d1_91 : decode prog_16_method_10_code 91 = .ok (.lastore, 1) := by decide +kernel
theorem own_d1_92 : decode prog_16_method_10_code 92 = .ok (.aload_n 0, 1) := by decide +kernel
theorem own_d1_93 : decode prog_16_method_10_code 93 = .ok (.iconst 4, 1) := by decide +kernel
theorem own_d1_94 : decode prog_16_method_10_code 94 = .ok (.iload_n 1, 1) := by decide +kernel
theorem own_d1_95 : decode prog_16_method_10_code 95 = .ok (.i2l, 1) := by decide +kernel
theorem own_d1_96 : decode prog_16_method_10_code 96 = .ok (.aload_n 2, 1) := by decide +kernel
theorem own_d1_97 : decode prog_16_method_10_code 97 = .ok (.iconst 4, 1) := by decide +kernel
theorem own_d1_98 : decode prog_16_method_10_code 98 = .ok (.laload, 1) := by decide +kernel
theorem own_d1_99 : decode prog_16_method_10_code 99 = .ok (.lmul, 1) := by decide +kernel
theorem own_d1_100 : decode prog_16_method_10_code 100 = .ok (.iload_n 3, 1) := by decide +kernel
theorem own_d1_101 : decode prog_16_method_10_code 101 = .ok (.i2l, 1) := by decide +kernel
theorem own_d1_102 : decode prog_16_method_10_code 102 = .ok (.aload 4, 2) := by decide +kernel
theorem own_d1_104 : decode prog_16_method_10_code 104 = .ok (.iconst 4, 1) := by decide +kernel
theorem own_d1_105 : decode prog_16_method_10_code 105 = .ok (.laload, 1) := by decide +kernel
theorem own_d1_106 : decode prog_16_method_10_code 106 = .ok (.lmul, 1) := by decide +kernel
theorem own_d1_107 : decode prog_16_method_10_code 107 = .ok (.lsub, 1) := by decide +kernel
theorem own_d1_108 : decode prog_16_method_10_code 108 = .ok (.getstatic 62, 3) := by decide +kernel
theorem own_d1_111 : decode prog_16_method_10_code 111 = .ok (.iconst 4, 1) := by decide +kernel
theorem own_d1_112 : decode prog_16_method_10_code 112 = .ok (.laload, 1) := by decide +kernel
theorem own_d1_113 : decode prog_16_method_10_code 113 = .ok (.ladd, 1) := by decide +kernel
theorem own_d1_114 : decode prog_16_method_10_code 114 = .ok (.lastore, 1) := by decide +kernel
theorem own_d1_115 : decode prog_16_method_10_code 115 = .ok (.return_, 1) := by decide +kernel
theorem own_pn0 : plainName "io/github/keyhold/core/P256Field" = true := by first | (simp [plainName, overriddenIn]; done) | decide +kernel
theorem own_rm1_ef (m : MethodId) (r : Addr) (ka : Int32) (a : Addr) (kb : Int32) (b : Addr) (P : Addr) (kr : ClassId) (kA : ClassId) (kB : ClassId) (kP : ClassId) (xr0 : Int64) (xr1 : Int64) (xr2 : Int64) (xr3 : Int64) (xr4 : Int64) (xa0 : Int64) (xa1 : Int64) (xa2 : Int64) (xa3 : Int64) (xa4 : Int64) (xb0 : Int64) (xb1 : Int64) (xb2 : Int64) (xb3 : Int64) (xb4 : Int64) : entryFrame m #[(.ref r), (.int ka), (.ref a), (.int kb), (.ref b)] 5 = mkF m 0 #[.val (.ref r), .val (.int ka), .val (.ref a), .val (.int kb), .val (.ref b)] [] := by first | (simp [entryFrame, mkF, argsToLocals, Value.category]; done) | rfl
def own_rm1_Q (Z : State) (r : Addr) (ka : Int32) (a : Addr) (kb : Int32) (b : Addr) (P : Addr) (kr : ClassId) (kA : ClassId) (kB : ClassId) (kP : ClassId) (xr0 : Int64) (xr1 : Int64) (xr2 : Int64) (xr3 : Int64) (xr4 : Int64) (xa0 : Int64) (xa1 : Int64) (xa2 : Int64) (xa3 : Int64) (xa4 : Int64) (xb0 : Int64) (xb1 : Int64) (xb2 : Int64) (xb3 : Int64) (xb4 : Int64) (h0 : Heap) (n0 : Nat) (v : Option Value) (h : Heap) (L : List Loc) : Prop := v = none ∧ Fr n0 L ∧ Keep h0 h [r] ∧ Arv Z h r kr .long (5 : Int32) [(.long (((ka.toInt64 * xa0) - (kb.toInt64 * xb0)) + (72057594037927904 : Int64))), (.long (((ka.toInt64 * xa1) - (kb.toInt64 * xb1)) + (35184372088831 : Int64))), (.long (((ka.toInt64 * xa2) - (kb.toInt64 * xb2)) + (0 : Int64))), (.long (((ka.toInt64 * xa3) - (kb.toInt64 * xb3)) + (536870912 : Int64))), (.long (((ka.toInt64 * xa4) - (kb.toInt64 * xb4)) + (137438953440 : Int64)))] (.long (0 : Int64))
set_option maxRecDepth 65536 in
set_option maxHeartbeats 40000000 in
theorem own_rm1 (l : Launch) (Z : State) (a0 : Array Value) (hw : ∀ d ∈ tables_1, d.before a0 Z = true) (ws : List Jvm.Cond) (r : Addr) (ka : Int32) (a : Addr) (kb : Int32) (b : Addr) (P : Addr) (kr : ClassId) (kA : ClassId) (kB : ClassId) (kP : ClassId) (xr0 : Int64) (xr1 : Int64) (xr2 : Int64) (xr3 : Int64) (xr4 : Int64) (xa0 : Int64) (xa1 : Int64) (xa2 : Int64) (xa3 : Int64) (xa4 : Int64) (xb0 : Int64) (xb1 : Int64) (xb2 : Int64) (xb3 : Int64) (xb4 : Int64) (h0 : Heap) (n0 : Nat) (Z0 : n0 ≤ h0.size) (V_r : Arv Z h0 r kr .long (5 : Int32) [(.long xr0), (.long xr1), (.long xr2), (.long xr3), (.long xr4)] (.long (0 : Int64))) (V_a : Arv Z h0 a kA .long (5 : Int32) [(.long xa0), (.long xa1), (.long xa2), (.long xa3), (.long xa4)] (.long (0 : Int64))) (V_b : Arv Z h0 b kB .long (5 : Int32) [(.long xb0), (.long xb1), (.long xb2), (.long xb3), (.long xb4)] (.long (0 : Int64))) (V_p : Arv Z h0 P kP .long (5 : Int32) [(.long (72057594037927904 : Int64)), (.long (35184372088831 : Int64)), (.long (0 : Int64)), (.long (536870912 : Int64)), (.long (137438953440 : Int64))] (.long (0 : Int64))) (S_p : Sta Z h0 "io/github/keyhold/core/P256Field" "P32" "[J" (.ref P)) (ne_a : a ≠ r) (ne_b : b ≠ r) (ne_p : P ≠ r) (g_r : n0 ≤ r) :
    MetFree l (⟨"io/github/keyhold/core/P256Field", "factor", "([JI[JI[J)V"⟩ : MethodName) (head1 (Jvm.Cond.code (⟨"io/github/keyhold/core/P256Field", "factor", "([JI[JI[J)V"⟩ : MethodName) prog_16_method_10_code 5 none :: ws) ({ frames := 0, cells := 0, slots := 0, locals := 0 } : Room)) (fun as_ U => as_ = #[(.ref r), (.int ka), (.ref a), (.int kb), (.ref b)] ∧ Z.Warmed39 U.vm ∧ U.heap = h0) (fun _ _ _ _ _ => True) (fun _ U o U' => ∃ v L, o = .returned v ∧ own_rm1_Q Z r ka a kb b P kr kA kB kP xr0 xr1 xr2 xr3 xr4 xa0 xa1 xa2 xa3 xa4 xb0 xb1 xb2 xb3 xb4 h0 n0 v U'.heap L ∧ FrameEnd U o U' L ({ frames := 0, cells := 0, slots := 0, locals := 0 } : Room).cells ({ frames := 0, cells := 0, slots := 0, locals := 0 } : Room).slots) := by
  refine MetFree.of_bodySF (plainFor_of_name own_pn0) hisR ?_
  intro p e s m args below meth c s₁ Bd hml0 hP hK
  obtain ⟨rfl, hZ, hh⟩ := hP
  have hx := Bd.exec
  have hby := Bd.bytes
  have hml : c.maxLocals = 5 := hml0
  have hown : s.vm.findClass "io/github/keyhold/core/P256Field" = some m.cls := findClass_of_methodNamed Bd.named
  have hnm := (name_of_methodNamed Bd.named Bd.method).1
  have X0 : Stand p l e ({ frames := 0, cells := 0, slots := 0, locals := 0 } : Room) s m #[(.ref r), (.int ka), (.ref a), (.int kb), (.ref b)] below meth c s₁ [] 0 0 := Stand.of_body Bd
  have e0 : s₁.heap = h0 := by rw [← hh, Bd.state]; rfl
  have N0 := Fr.nil n0
  refine own_begin (own_rm1_ef m r ka a kb b P kr kA kB kP xr0 xr1 xr2 xr3 xr4 xa0 xa1 xa2 xa3 xa4 xb0 xb1 xb2 xb3 xb4) ?_
  show Ends p.tables e below (s₁.setTop (mkF m 0 #[.val (.ref r), .val (.int ka), .val (.ref a), .val (.int kb), .val (.ref b)] [])) _
  have Kr0 : Keep h0 h0 [r] := Keep.refl h0 _
  refine s_aloadN (pc' := 1) X0.here hx (hb hby own_d1_0) rfl rfl rfl ?_
  refine s_iconst (pc' := 2) X0.here hx (v := (0 : Int32)) (hb hby own_d1_1) rfl rfl ?_
  refine s_iloadN (pc' := 3) X0.here hx (hb hby own_d1_2) rfl rfl ?_
  refine s_i2l (pc' := 4) X0.here hx (hb hby own_d1_3) rfl ?_
  refine s_aloadN (pc' := 5) X0.here hx (hb hby own_d1_4) rfl rfl rfl ?_
  refine s_iconst (pc' := 6) X0.here hx (v := (0 : Int32)) (hb hby own_d1_5) rfl rfl ?_
  refine s_laload (pc' := 7) (v := (.long xa0)) X0 hx hZ e0 V_a ⟨by decide, by decide⟩ rfl (hb hby own_d1_6) rfl ?_
  refine s_lmul (pc' := 8) X0.here hx (hb hby own_d1_7) rfl ?_
  refine s_iloadN (pc' := 9) X0.here hx (hb hby own_d1_8) rfl rfl ?_
  refine s_i2l (pc' := 10) X0.here hx (hb hby own_d1_9) rfl ?_
  refine s_aload (pc' := 12) X0.here hx (hb hby own_d1_10) rfl rfl rfl ?_
  refine s_iconst (pc' := 13) X0.here hx (v := (0 : Int32)) (hb hby own_d1_12) rfl rfl ?_
  refine s_laload (pc' := 14) (v := (.long xb0)) X0 hx hZ e0 V_b ⟨by decide, by decide⟩ rfl (hb hby own_d1_13) rfl ?_
  refine s_lmul (pc' := 15) X0.here hx (hb hby own_d1_14) rfl ?_
  refine s_lsub (pc' := 16) X0.here hx (hb hby own_d1_15) rfl ?_
  refine s_getS (pc' := 19) X0 hx hZ hown (host := "") (Or.inl (hw _ (List.mem_of_getElem? (i := 11) rfl))) Via.refl e0 S_p (hb hby own_d1_16) rfl fun T1 X1 e1 => ?_
  refine s_iconst (pc' := 20) X1.here hx (v := (0 : Int32)) (hb hby own_d1_19) rfl rfl ?_
  refine s_laload (pc' := 21) (v := (.long (72057594037927904 : Int64))) X1 hx hZ e1 V_p ⟨by decide, by decide⟩ rfl (hb hby own_d1_20) rfl ?_
  refine s_ladd (pc' := 22) X1.here hx (hb hby own_d1_21) rfl ?_
  refine s_putJ (pc' := 23) X1 hx hZ e1 V_r ⟨by decide, by decide⟩ 0 rfl (Nat.le_of_ble_eq_true rfl) (hb hby own_d1_22) rfl fun T2 hp2 X2 e2 W2 Vw2 => ?_
  have V3 : Arv Z hp2 r kr .long (5 : Int32) [(.long ((((ka.toInt64) * xa0) - ((kb.toInt64) * xb0)) + (72057594037927904 : Int64))), (.long xr1), (.long xr2), (.long xr3), (.long xr4)] (.long (0 : Int64)) := Vw2
  have N2 := Fr.snoc X2 N0 g_r
  have f4 := V_a.other W2 ne_a
  have f5 := V_b.other W2 ne_b
  have f6 := V_p.other W2 ne_p
  have f7 := S_p.wr W2
  have Z8 : n0 ≤ hp2.size := Nat.le_trans Z0 (Keep.of_wr W2).1
  have K9 : Keep h0 hp2 [r] := Kr0.wr W2 (Or.inl (List.mem_of_getElem? (i := 0) rfl))
  refine s_aloadN (pc' := 24) X2.here hx (hb hby own_d1_23) rfl rfl rfl ?_
  refine s_iconst (pc' := 25) X2.here hx (v := (1 : Int32)) (hb hby own_d1_24) rfl rfl ?_
  refine s_iloadN (pc' := 26) X2.here hx (hb hby own_d1_25) rfl rfl ?_
  refine s_i2l (pc' := 27) X2.here hx (hb hby own_d1_26) rfl ?_
  refine s_aloadN (pc' := 28) X2.here hx (hb hby own_d1_27) rfl rfl rfl ?_
  refine s_iconst (pc' := 29) X2.here hx (v := (1 : Int32)) (hb hby own_d1_28) rfl rfl ?_
  refine s_laload (pc' := 30) (v := (.long xa1)) X2 hx hZ e2 f4 ⟨by decide, by decide⟩ rfl (hb hby own_d1_29) rfl ?_
  refine s_lmul (pc' := 31) X2.here hx (hb hby own_d1_30) rfl ?_
  refine s_iloadN (pc' := 32) X2.here hx (hb hby own_d1_31) rfl rfl ?_
  refine s_i2l (pc' := 33) X2.here hx (hb hby own_d1_32) rfl ?_
  refine s_aload (pc' := 35) X2.here hx (hb hby own_d1_33) rfl rfl rfl ?_
  refine s_iconst (pc' := 36) X2.here hx (v := (1 : Int32)) (hb hby own_d1_35) rfl rfl ?_
  refine s_laload (pc' := 37) (v := (.long xb1)) X2 hx hZ e2 f5 ⟨by decide, by decide⟩ rfl (hb hby own_d1_36) rfl ?_
  refine s_lmul (pc' := 38) X2.here hx (hb hby own_d1_37) rfl ?_
  refine s_lsub (pc' := 39) X2.here hx (hb hby own_d1_38) rfl ?_
  refine s_getS (pc' := 42) X2 hx hZ hown (host := "") (Or.inl (hw _ (List.mem_of_getElem? (i := 11) rfl))) Via.refl e2 f7 (hb hby own_d1_39) rfl fun T10 X10 e10 => ?_
  refine s_iconst (pc' := 43) X10.here hx (v := (1 : Int32)) (hb hby own_d1_42) rfl rfl ?_
  refine s_laload (pc' := 44) (v := (.long (35184372088831 : Int64))) X10 hx hZ e10 f6 ⟨by decide, by decide⟩ rfl (hb hby own_d1_43) rfl ?_
  refine s_ladd (pc' := 45) X10.here hx (hb hby own_d1_44) rfl ?_
  refine s_putJ (pc' := 46) X10 hx hZ e10 V3 ⟨by decide, by decide⟩ 1 rfl (Nat.le_of_ble_eq_true rfl) (hb hby own_d1_45) rfl fun T11 hp11 X11 e11 W11 Vw11 => ?_
  have V12 : Arv Z hp11 r kr .long (5 : Int32) [(.long ((((ka.toInt64) * xa0) - ((kb.toInt64) * xb0)) + (72057594037927904 : Int64))), (.long ((((ka.toInt64) * xa1) - ((kb.toInt64) * xb1)) + (35184372088831 : Int64))), (.long xr2), (.long xr3), (.long xr4)] (.long (0 : Int64)) := Vw11
  have N11 := Fr.snoc X11 N2 g_r
  have f13 := f4.other W11 ne_a
  have f14 := f5.other W11 ne_b
  have f15 := f6.other W11 ne_p
  have f16 := f7.wr W11
  have Z17 : n0 ≤ hp11.size := Nat.le_trans Z8 (Keep.of_wr W11).1
  have K18 : Keep h0 hp11 [r] := K9.wr W11 (Or.inl (List.mem_of_getElem? (i := 0) rfl))
  refine s_aloadN (pc' := 47) X11.here hx (hb hby own_d1_46) rfl rfl rfl ?_
  refine s_iconst (pc' := 48) X11.here hx (v := (2 : Int32)) (hb hby own_d1_47) rfl rfl ?_
  refine s_iloadN (pc' := 49) X11.here hx (hb hby own_d1_48) rfl rfl ?_
  refine s_i2l (pc' := 50) X11.here hx (hb hby own_d1_49) rfl ?_
  refine s_aloadN (pc' := 51) X11.here hx (hb hby own_d1_50) rfl rfl rfl ?_
  refine s_iconst (pc' := 52) X11.here hx (v := (2 : Int32)) (hb hby own_d1_51) rfl rfl ?_
  refine s_laload (pc' := 53) (v := (.long xa2)) X11 hx hZ e11 f13 ⟨by decide, by decide⟩ rfl (hb hby own_d1_52) rfl ?_
  refine s_lmul (pc' := 54) X11.here hx (hb hby own_d1_53) rfl ?_
  refine s_iloadN (pc' := 55) X11.here hx (hb hby own_d1_54) rfl rfl ?_
  refine s_i2l (pc' := 56) X11.here hx (hb hby own_d1_55) rfl ?_
  refine s_aload (pc' := 58) X11.here hx (hb hby own_d1_56) rfl rfl rfl ?_
  refine s_iconst (pc' := 59) X11.here hx (v := (2 : Int32)) (hb hby own_d1_58) rfl rfl ?_
  refine s_laload (pc' := 60) (v := (.long xb2)) X11 hx hZ e11 f14 ⟨by decide, by decide⟩ rfl (hb hby own_d1_59) rfl ?_
  refine s_lmul (pc' := 61) X11.here hx (hb hby own_d1_60) rfl ?_
  refine s_lsub (pc' := 62) X11.here hx (hb hby own_d1_61) rfl ?_
  refine s_getS (pc' := 65) X11 hx hZ hown (host := "") (Or.inl (hw _ (List.mem_of_getElem? (i := 11) rfl))) Via.refl e11 f16 (hb hby own_d1_62) rfl fun T19 X19 e19 => ?_
  refine s_iconst (pc' := 66) X19.here hx (v := (2 : Int32)) (hb hby own_d1_65) rfl rfl ?_
  refine s_laload (pc' := 67) (v := (.long (0 : Int64))) X19 hx hZ e19 f15 ⟨by decide, by decide⟩ rfl (hb hby own_d1_66) rfl ?_
  refine s_ladd (pc' := 68) X19.here hx (hb hby own_d1_67) rfl ?_
  refine s_putJ (pc' := 69) X19 hx hZ e19 V12 ⟨by decide, by decide⟩ 2 rfl (Nat.le_of_ble_eq_true rfl) (hb hby own_d1_68) rfl fun T20 hp20 X20 e20 W20 Vw20 => ?_
  have V21 : Arv Z hp20 r kr .long (5 : Int32) [(.long ((((ka.toInt64) * xa0) - ((kb.toInt64) * xb0)) + (72057594037927904 : Int64))), (.long ((((ka.toInt64) * xa1) - ((kb.toInt64) * xb1)) + (35184372088831 : Int64))), (.long ((((ka.toInt64) * xa2) - ((kb.toInt64) * xb2)) + (0 : Int64))), (.long xr3), (.long xr4)] (.long (0 : Int64)) := Vw20
  have N20 := Fr.snoc X20 N11 g_r
  have f22 := f13.other W20 ne_a
  have f23 := f14.other W20 ne_b
  have f24 := f15.other W20 ne_p
  have f25 := f16.wr W20
  have Z26 : n0 ≤ hp20.size := Nat.le_trans Z17 (Keep.of_wr W20).1
  have K27 : Keep h0 hp20 [r] := K18.wr W20 (Or.inl (List.mem_of_getElem? (i := 0) rfl))
  refine s_aloadN (pc' := 70) X20.here hx (hb hby own_d1_69) rfl rfl rfl ?_
  refine s_iconst (pc' := 71) X20.here hx (v := (3 : Int32)) (hb hby own_d1_70) rfl rfl ?_
  refine s_iloadN (pc' := 72) X20.here hx (hb hby own_d1_71) rfl rfl ?_
  refine s_i2l (pc' := 73) X20.here hx (hb hby own_d1_72) rfl ?_
  refine s_aloadN (pc' := 74) X20.here hx (hb hby own_d1_73) rfl rfl rfl ?_
  refine s_iconst (pc' := 75) X20.here hx (v := (3 : Int32)) (hb hby own_d1_74) rfl rfl ?_
  refine s_laload (pc' := 76) (v := (.long xa3)) X20 hx hZ e20 f22 ⟨by decide, by decide⟩ rfl (hb hby own_d1_75) rfl ?_
  refine s_lmul (pc' := 77) X20.here hx (hb hby own_d1_76) rfl ?_
  refine s_iloadN (pc' := 78) X20.here hx (hb hby own_d1_77) rfl rfl ?_
  refine s_i2l (pc' := 79) X20.here hx (hb hby own_d1_78) rfl ?_
  refine s_aload (pc' := 81) X20.here hx (hb hby own_d1_79) rfl rfl rfl ?_
  refine s_iconst (pc' := 82) X20.here hx (v := (3 : Int32)) (hb hby own_d1_81) rfl rfl ?_
  refine s_laload (pc' := 83) (v := (.long xb3)) X20 hx hZ e20 f23 ⟨by decide, by decide⟩ rfl (hb hby own_d1_82) rfl ?_
  refine s_lmul (pc' := 84) X20.here hx (hb hby own_d1_83) rfl ?_
  refine s_lsub (pc' := 85) X20.here hx (hb hby own_d1_84) rfl ?_
  refine s_getS (pc' := 88) X20 hx hZ hown (host := "") (Or.inl (hw _ (List.mem_of_getElem? (i := 11) rfl))) Via.refl e20 f25 (hb hby own_d1_85) rfl fun T28 X28 e28 => ?_
  refine s_iconst (pc' := 89) X28.here hx (v := (3 : Int32)) (hb hby own_d1_88) rfl rfl ?_
  refine s_laload (pc' := 90) (v := (.long (536870912 : Int64))) X28 hx hZ e28 f24 ⟨by decide, by decide⟩ rfl (hb hby own_d1_89) rfl ?_
  refine s_ladd (pc' := 91) X28.here hx (hb hby own_d1_90) rfl ?_
  refine s_putJ (pc' := 92) X28 hx hZ e28 V21 ⟨by decide, by decide⟩ 3 rfl (Nat.le_of_ble_eq_true rfl) (hb hby own_d1_91) rfl fun T29 hp29 X29 e29 W29 Vw29 => ?_
  have V30 : Arv Z hp29 r kr .long (5 : Int32) [(.long ((((ka.toInt64) * xa0) - ((kb.toInt64) * xb0)) + (72057594037927904 : Int64))), (.long ((((ka.toInt64) * xa1) - ((kb.toInt64) * xb1)) + (35184372088831 : Int64))), (.long ((((ka.toInt64) * xa2) - ((kb.toInt64) * xb2)) + (0 : Int64))), (.long ((((ka.toInt64) * xa3) - ((kb.toInt64) * xb3)) + (536870912 : Int64))), (.long xr4)] (.long (0 : Int64)) := Vw29
  have N29 := Fr.snoc X29 N20 g_r
  have f31 := f22.other W29 ne_a
  have f32 := f23.other W29 ne_b
  have f33 := f24.other W29 ne_p
  have f34 := f25.wr W29
  have Z35 : n0 ≤ hp29.size := Nat.le_trans Z26 (Keep.of_wr W29).1
  have K36 : Keep h0 hp29 [r] := K27.wr W29 (Or.inl (List.mem_of_getElem? (i := 0) rfl))
  refine s_aloadN (pc' := 93) X29.here hx (hb hby own_d1_92) rfl rfl rfl ?_
  refine s_iconst (pc' := 94) X29.here hx (v := (4 : Int32)) (hb hby own_d1_93) rfl rfl ?_
  refine s_iloadN (pc' := 95) X29.here hx (hb hby own_d1_94) rfl rfl ?_
  refine s_i2l (pc' := 96) X29.here hx (hb hby own_d1_95) rfl ?_
  refine s_aloadN (pc' := 97) X29.here hx (hb hby own_d1_96) rfl rfl rfl ?_
  refine s_iconst (pc' := 98) X29.here hx (v := (4 : Int32)) (hb hby own_d1_97) rfl rfl ?_
  refine s_laload (pc' := 99) (v := (.long xa4)) X29 hx hZ e29 f31 ⟨by decide, by decide⟩ rfl (hb hby own_d1_98) rfl ?_
  refine s_lmul (pc' := 100) X29.here hx (hb hby own_d1_99) rfl ?_
  refine s_iloadN (pc' := 101) X29.here hx (hb hby own_d1_100) rfl rfl ?_
  refine s_i2l (pc' := 102) X29.here hx (hb hby own_d1_101) rfl ?_
  refine s_aload (pc' := 104) X29.here hx (hb hby own_d1_102) rfl rfl rfl ?_
  refine s_iconst (pc' := 105) X29.here hx (v := (4 : Int32)) (hb hby own_d1_104) rfl rfl ?_
  refine s_laload (pc' := 106) (v := (.long xb4)) X29 hx hZ e29 f32 ⟨by decide, by decide⟩ rfl (hb hby own_d1_105) rfl ?_
  refine s_lmul (pc' := 107) X29.here hx (hb hby own_d1_106) rfl ?_
  refine s_lsub (pc' := 108) X29.here hx (hb hby own_d1_107) rfl ?_
  refine s_getS (pc' := 111) X29 hx hZ hown (host := "") (Or.inl (hw _ (List.mem_of_getElem? (i := 11) rfl))) Via.refl e29 f34 (hb hby own_d1_108) rfl fun T37 X37 e37 => ?_
  refine s_iconst (pc' := 112) X37.here hx (v := (4 : Int32)) (hb hby own_d1_111) rfl rfl ?_
  refine s_laload (pc' := 113) (v := (.long (137438953440 : Int64))) X37 hx hZ e37 f33 ⟨by decide, by decide⟩ rfl (hb hby own_d1_112) rfl ?_
  refine s_ladd (pc' := 114) X37.here hx (hb hby own_d1_113) rfl ?_
  refine s_putJ (pc' := 115) X37 hx hZ e37 V30 ⟨by decide, by decide⟩ 4 rfl (Nat.le_of_ble_eq_true rfl) (hb hby own_d1_114) rfl fun T38 hp38 X38 e38 W38 Vw38 => ?_
  have V39 : Arv Z hp38 r kr .long (5 : Int32) [(.long ((((ka.toInt64) * xa0) - ((kb.toInt64) * xb0)) + (72057594037927904 : Int64))), (.long ((((ka.toInt64) * xa1) - ((kb.toInt64) * xb1)) + (35184372088831 : Int64))), (.long ((((ka.toInt64) * xa2) - ((kb.toInt64) * xb2)) + (0 : Int64))), (.long ((((ka.toInt64) * xa3) - ((kb.toInt64) * xb3)) + (536870912 : Int64))), (.long ((((ka.toInt64) * xa4) - ((kb.toInt64) * xb4)) + (137438953440 : Int64)))] (.long (0 : Int64)) := Vw38
  have N38 := Fr.snoc X38 N29 g_r
  have f40 := f31.other W38 ne_a
  have f41 := f32.other W38 ne_b
  have f42 := f33.other W38 ne_p
  have f43 := f34.wr W38
  have Z44 : n0 ≤ hp38.size := Nat.le_trans Z35 (Keep.of_wr W38).1
  have K45 : Keep h0 hp38 [r] := K36.wr W38 (Or.inl (List.mem_of_getElem? (i := 0) rfl))
  obtain ⟨fs, hr, hrun, hended, hW, hsame⟩ := X38.leave (v := none) (fun _ => rfl)
  refine ⟨_, _, X38.returnOut hx Bd.returns (hb hby own_d1_115) hr, hrun, hended, _, _, rfl, ?_, ⟨_, rfl⟩, hW, hsame.mono (by decide) (by decide)⟩
  show own_rm1_Q Z r ka a kb b P kr kA kB kP xr0 xr1 xr2 xr3 xr4 xa0 xa1 xa2 xa3 xa4 xb0 xb1 xb2 xb3 xb4 h0 n0 _ T38.heap _
  rw [e38]
  exact ⟨rfl, N38, K45, V39⟩
theorem own_d2_0 : decode method_2_code 0 = .ok (.iload 4, 2) := by decide +kernel
theorem own_d2_2 : decode method_2_code 2 = .ok (.i2l, 1) := by decide +kernel
theorem own_d2_3 : decode method_2_code 3 = .ok (.aload_n 1, 1) := by decide +kernel
theorem own_d2_4 : decode method_2_code 4 = .ok (.iload 6, 2) := by decide +kernel
theorem own_d2_6 : decode method_2_code 6 = .ok (.laload, 1) := by decide +kernel
theorem own_d2_7 : decode method_2_code 7 = .ok (.lmul, 1) := by decide +kernel
theorem own_d2_8 : decode method_2_code 8 = .ok (.iload 5, 2) := by decide +kernel
theorem own_d2_10 : decode method_2_code 10 = .ok (.i2l, 1) := by decide +kernel
theorem own_d2_11 : decode method_2_code 11 = .ok (.aload_n 2, 1) := by decide +kernel
theorem own_d2_12 : decode method_2_code 12 = .ok (.iload 6, 2) := by decide +kernel
theorem own_d2_14 : decode method_2_code 14 = .ok (.laload, 1) := by decide +kernel
theorem own_d2_15 : decode method_2_code 15 = .ok (.lmul, 1) := by decide +kernel
theorem own_d2_16 : decode method_2_code 16 = .ok (.lsub, 1) := by decide +kernel
theorem own_d2_17 : decode method_2_code 17 = .ok (.aload_n 3, 1) := by decide +kernel
theorem own_d2_18 : decode method_2_code 18 = .ok (.iload 6, 2) := by decide +kernel
theorem own_d2_20 : decode method_2_code 20 = .ok (.laload, 1) := by decide +kernel
theorem own_d2_21 : decode method_2_code 21 = .ok (.ladd, 1) := by decide +kernel
theorem own_d2_22 : decode method_2_code 22 = .ok (.lstore 7, 2) := by decide +kernel
theorem own_d2_24 : decode method_2_code 24 = .ok (.aload_n 0, 1) := by decide +kernel
theorem own_d2_25 : decode method_2_code 25 = .ok (.iload 6, 2) := by decide +kernel
theorem own_d2_27 : decode method_2_code 27 = .ok (.laload, 1) := by decide +kernel
theorem own_d2_28 : decode method_2_code 28 = .ok (.lload 7, 2) := by decide +kernel
theorem own_d2_30 : decode method_2_code 30 = .ok (.lcmp, 1) := by decide +kernel
theorem own_d2_31 : decode method_2_code 31 = .ok (.ifCond .eq 5, 3) := by decide +kernel
theorem own_d2_36 : decode method_2_code 36 = .ok (.iload 4, 2) := by decide +kernel
theorem own_d2_38 : decode method_2_code 38 = .ok (.iconst 4, 1) := by decide +kernel
theorem own_d2_39 : decode method_2_code 39 = .ok (.if_icmp .gt 37, 3) := by decide +kernel
theorem own_d2_76 : decode method_2_code 76 = .ok (.iconst 1, 1) := by decide +kernel
theorem own_d2_77 : decode method_2_code 77 = .ok (.ireturn, 1) := by decide +kernel
theorem own_d2_42 : decode method_2_code 42 = .ok (.iload 5, 2) := by decide +kernel
theorem own_d2_44 : decode method_2_code 44 = .ok (.iconst 3, 1) := by decide +kernel
theorem own_d2_45 : decode method_2_code 45 = .ok (.if_icmp .gt 31, 3) := by decide +kernel
theorem own_d2_48 : decode method_2_code 48 = .ok (.aload_n 0, 1) := by decide +kernel
theorem own_d2_49 : decode method_2_code 49 = .ok (.iload 6, 2) := by decide +kernel
theorem own_d2_51 : decode method_2_code 51 = .ok (.laload, 1) := by decide +kernel
theorem own_d2_52 : decode method_2_code 52 = .ok (.ldc2_w 7, 3) := by decide +kernel
theorem own_d2_55 : decode method_2_code 55 = .ok (.lcmp, 1) := by decide +kernel
theorem own_d2_56 : decode method_2_code 56 = .ok (.ifCond .lt 18, 3) := by decide +kernel
theorem own_d2_59 : decode method_2_code 59 = .ok (.aload_n 0, 1) := by decide +kernel
theorem own_d2_60 : decode method_2_code 60 = .ok (.iload 6, 2) := by decide +kernel
theorem own_d2_62 : decode method_2_code 62 = .ok (.laload, 1) := by decide +kernel
theorem own_d2_63 : decode method_2_code 63 = .ok (.ldc2_w 9, 3) := by decide +kernel
theorem own_d2_66 : decode method_2_code 66 = .ok (.lcmp, 1) := by decide +kernel
theorem own_d2_67 : decode method_2_code 67 = .ok (.ifCond .gt 7, 3) := by decide +kernel
theorem own_d2_70 : decode method_2_code 70 = .ok (.iconst 1, 1) := by decide +kernel
theorem own_d2_71 : decode method_2_code 71 = .ok (.goto 4, 3) := by decide +kernel
theorem own_d2_75 : decode method_2_code 75 = .ok (.ireturn, 1) := by decide +kernel
theorem own_pn1 : plainName "io/github/keyhold/core/P256FieldFactorPinLaw" = true := by first | (simp [plainName, overriddenIn]; done) | decide +kernel
theorem own_rm2_ef (m : MethodId) (r : Addr) (a : Addr) (b : Addr) (P : Addr) (ka : Int32) (kb : Int32) (i : Int32) (kr : ClassId) (kA : ClassId) (kB : ClassId) (kP : ClassId) (vr : List Value) (va : List Value) (vb : List Value) (vp : List Value) (x : Int64) (y : Int64) (z : Int64) : entryFrame m #[(.ref r), (.ref a), (.ref b), (.ref P), (.int ka), (.int kb), (.int i)] 9 = mkF m 0 #[.val (.ref r), .val (.ref a), .val (.ref b), .val (.ref P), .val (.int ka), .val (.int kb), .val (.int i), .unset, .unset] [] := by first | (simp [entryFrame, mkF, argsToLocals, Value.category]; done) | rfl
def own_rm2_Q (Z : State) (r : Addr) (a : Addr) (b : Addr) (P : Addr) (ka : Int32) (kb : Int32) (i : Int32) (kr : ClassId) (kA : ClassId) (kB : ClassId) (kP : ClassId) (vr : List Value) (va : List Value) (vb : List Value) (vp : List Value) (x : Int64) (y : Int64) (z : Int64) (h0 : Heap) (n0 : Nat) (v : Option Value) (h : Heap) (L : List Loc) : Prop := v = some (.int 1) ∧ Fr n0 L ∧ h = h0
set_option maxRecDepth 65536 in
set_option maxHeartbeats 40000000 in
theorem own_rm2 (l : Launch) (Z : State) (a0 : Array Value) (hw : ∀ d ∈ tables_1, d.before a0 Z = true) (ws : List Jvm.Cond) (r : Addr) (a : Addr) (b : Addr) (P : Addr) (ka : Int32) (kb : Int32) (i : Int32) (kr : ClassId) (kA : ClassId) (kB : ClassId) (kP : ClassId) (vr : List Value) (va : List Value) (vb : List Value) (vp : List Value) (x : Int64) (y : Int64) (z : Int64) (h0 : Heap) (n0 : Nat) (Z0 : n0 ≤ h0.size) (V_r : Arv Z h0 r kr .long (5 : Int32) vr (.long (0 : Int64))) (V_a : Arv Z h0 a kA .long (5 : Int32) va (.long (0 : Int64))) (V_b : Arv Z h0 b kB .long (5 : Int32) vb (.long (0 : Int64))) (V_p : Arv Z h0 P kP .long (5 : Int32) vp (.long (0 : Int64))) (hi0 : ¬ i < 0) (hi5 : i < (5 : Int32)) (gr : vr.getD i.toNatClampNeg (.long (0 : Int64)) = .long (((ka.toInt64 * x) - (kb.toInt64 * y)) + z)) (ga : va.getD i.toNatClampNeg (.long (0 : Int64)) = .long x) (gb : vb.getD i.toNatClampNeg (.long (0 : Int64)) = .long y) (gp : vp.getD i.toNatClampNeg (.long (0 : Int64)) = .long z) (hB : ¬ (4 : Int32) < ka → ¬ (3 : Int32) < kb → ¬ (((ka.toInt64 * x) - (kb.toInt64 * y)) + z) < (-288230376151711744 : Int64) ∧ ¬ (576460752303423488 : Int64) < (((ka.toInt64 * x) - (kb.toInt64 * y)) + z)) :
    MetFree l (⟨"io/github/keyhold/core/P256FieldFactorPinLaw", "limb", "([J[J[J[JIII)Z"⟩ : MethodName) (head1 (Jvm.Cond.code (⟨"io/github/keyhold/core/P256FieldFactorPinLaw", "limb", "([J[J[J[JIII)Z"⟩ : MethodName) method_2_code 9 (some .boolean) :: ws) ({ frames := 0, cells := 0, slots := 0, locals := 0 } : Room)) (fun as_ U => as_ = #[(.ref r), (.ref a), (.ref b), (.ref P), (.int ka), (.int kb), (.int i)] ∧ Z.Warmed39 U.vm ∧ U.heap = h0) (fun _ _ _ _ _ => True) (fun _ U o U' => ∃ v L, o = .returned v ∧ own_rm2_Q Z r a b P ka kb i kr kA kB kP vr va vb vp x y z h0 n0 v U'.heap L ∧ FrameEnd U o U' L ({ frames := 0, cells := 0, slots := 0, locals := 0 } : Room).cells ({ frames := 0, cells := 0, slots := 0, locals := 0 } : Room).slots) := by
  refine MetFree.of_bodySF (plainFor_of_name own_pn1) hisR ?_
  intro p e s m args below meth c s₁ Bd hml0 hP hK
  obtain ⟨rfl, hZ, hh⟩ := hP
  have hx := Bd.exec
  have hby := Bd.bytes
  have hml : c.maxLocals = 9 := hml0
  have hown : s.vm.findClass "io/github/keyhold/core/P256FieldFactorPinLaw" = some m.cls := findClass_of_methodNamed Bd.named
  have hnm := (name_of_methodNamed Bd.named Bd.method).1
  have X0 : Stand p l e ({ frames := 0, cells := 0, slots := 0, locals := 0 } : Room) s m #[(.ref r), (.ref a), (.ref b), (.ref P), (.int ka), (.int kb), (.int i)] below meth c s₁ [] 0 0 := Stand.of_body Bd
  have e0 : s₁.heap = h0 := by rw [← hh, Bd.state]; rfl
  have N0 := Fr.nil n0
  refine own_begin (own_rm2_ef m r a b P ka kb i kr kA kB kP vr va vb vp x y z) ?_
  show Ends p.tables e below (s₁.setTop (mkF m 0 #[.val (.ref r), .val (.ref a), .val (.ref b), .val (.ref P), .val (.int ka), .val (.int kb), .val (.int i), .unset, .unset] [])) _
  refine s_iload (pc' := 2) X0.here hx (hb hby own_d2_0) rfl rfl ?_
  refine s_i2l (pc' := 3) X0.here hx (hb hby own_d2_2) rfl ?_
  refine s_aloadN (pc' := 4) X0.here hx (hb hby own_d2_3) rfl rfl rfl ?_
  refine s_iload (pc' := 6) X0.here hx (hb hby own_d2_4) rfl rfl ?_
  refine s_laload (pc' := 7) (v := (.long x)) X0 hx hZ e0 V_a ⟨hi0, hi5⟩ ga (hb hby own_d2_6) rfl ?_
  refine s_lmul (pc' := 8) X0.here hx (hb hby own_d2_7) rfl ?_
  refine s_iload (pc' := 10) X0.here hx (hb hby own_d2_8) rfl rfl ?_
  refine s_i2l (pc' := 11) X0.here hx (hb hby own_d2_10) rfl ?_
  refine s_aloadN (pc' := 12) X0.here hx (hb hby own_d2_11) rfl rfl rfl ?_
  refine s_iload (pc' := 14) X0.here hx (hb hby own_d2_12) rfl rfl ?_
  refine s_laload (pc' := 15) (v := (.long y)) X0 hx hZ e0 V_b ⟨hi0, hi5⟩ gb (hb hby own_d2_14) rfl ?_
  refine s_lmul (pc' := 16) X0.here hx (hb hby own_d2_15) rfl ?_
  refine s_lsub (pc' := 17) X0.here hx (hb hby own_d2_16) rfl ?_
  refine s_aloadN (pc' := 18) X0.here hx (hb hby own_d2_17) rfl rfl rfl ?_
  refine s_iload (pc' := 20) X0.here hx (hb hby own_d2_18) rfl rfl ?_
  refine s_laload (pc' := 21) (v := (.long z)) X0 hx hZ e0 V_p ⟨hi0, hi5⟩ gp (hb hby own_d2_20) rfl ?_
  refine s_ladd (pc' := 22) X0.here hx (hb hby own_d2_21) rfl ?_
  refine s_lstore (pc' := 24) X0.here hx (l' := #[.val (.ref r), .val (.ref a), .val (.ref b), .val (.ref P), .val (.int ka), .val (.int kb), .val (.int i), .val (.long ((((ka.toInt64) * x) - ((kb.toInt64) * y)) + z)), .second]) (hb hby own_d2_22) rfl rfl ?_
  refine s_aloadN (pc' := 25) X0.here hx (hb hby own_d2_24) rfl rfl rfl ?_
  refine s_iload (pc' := 27) X0.here hx (hb hby own_d2_25) rfl rfl ?_
  refine s_laload (pc' := 28) (v := (.long (((ka.toInt64 * x) - (kb.toInt64 * y)) + z))) X0 hx hZ e0 V_r ⟨hi0, hi5⟩ gr (hb hby own_d2_27) rfl ?_
  refine s_lload (pc' := 30) X0.here hx (hb hby own_d2_28) rfl rfl ?_
  refine s_lcmp (pc' := 31) X0.here hx (hb hby own_d2_30) rfl ?_
  have hk1 : (((ka.toInt64 * x) - (kb.toInt64 * y)) + z) = ((((ka.toInt64) * x) - ((kb.toInt64) * y)) + z) := rfl
  refine s_ifYes (pc' := 36) X0.here hx (hb hby own_d2_31) ((if0 _ _).trans (teq ((lw_eq (((ka.toInt64 * x) - (kb.toInt64 * y)) + z) ((((ka.toInt64) * x) - ((kb.toInt64) * y)) + z)).mpr hk1)).1) (by decide) (by decide) ?_
  refine s_iload (pc' := 38) X0.here hx (hb hby own_d2_36) rfl rfl ?_
  refine s_iconst (pc' := 39) X0.here hx (v := (4 : Int32)) (hb hby own_d2_38) rfl rfl ?_
  by_cases h4 : (4 : Int32) < ka
  · refine s_icmpYes (pc' := 76) X0.here hx (hb hby own_d2_39) (tlt h4).2.2.1 (by decide) (by decide) ?_
    refine s_iconst (pc' := 77) X0.here hx (v := (1 : Int32)) (hb hby own_d2_76) rfl rfl ?_
    obtain ⟨fs, hr, hrun, hended, hW, hsame⟩ := X0.leave (v := some (.int (1 : Int32))) (fun h => by rw [Bd.returns] at h; cases h)
    refine ⟨_, _, retN X0 hx (t := .boolean) Bd.returns (by simp) (hb hby own_d2_77) hr, hrun, hended, _, _, rfl, ?_, ⟨_, rfl⟩, hW, hsame.mono (by decide) (by decide)⟩
    show own_rm2_Q Z r a b P ka kb i kr kA kB kP vr va vb vp x y z h0 n0 _ s₁.heap _
    rw [e0]
    exact ⟨rfl, N0, rfl⟩
  · refine s_icmpNo (pc' := 42) X0.here hx (hb hby own_d2_39) (flt h4).2.2.1 rfl ?_
    refine s_iload (pc' := 44) X0.here hx (hb hby own_d2_42) rfl rfl ?_
    refine s_iconst (pc' := 45) X0.here hx (v := (3 : Int32)) (hb hby own_d2_44) rfl rfl ?_
    by_cases h3 : (3 : Int32) < kb
    · refine s_icmpYes (pc' := 76) X0.here hx (hb hby own_d2_45) (tlt h3).2.2.1 (by decide) (by decide) ?_
      refine s_iconst (pc' := 77) X0.here hx (v := (1 : Int32)) (hb hby own_d2_76) rfl rfl ?_
      obtain ⟨fs, hr, hrun, hended, hW, hsame⟩ := X0.leave (v := some (.int (1 : Int32))) (fun h => by rw [Bd.returns] at h; cases h)
      refine ⟨_, _, retN X0 hx (t := .boolean) Bd.returns (by simp) (hb hby own_d2_77) hr, hrun, hended, _, _, rfl, ?_, ⟨_, rfl⟩, hW, hsame.mono (by decide) (by decide)⟩
      show own_rm2_Q Z r a b P ka kb i kr kA kB kP vr va vb vp x y z h0 n0 _ s₁.heap _
      rw [e0]
      exact ⟨rfl, N0, rfl⟩
    · refine s_icmpNo (pc' := 48) X0.here hx (hb hby own_d2_45) (flt h3).2.2.1 rfl ?_
      refine s_aloadN (pc' := 49) X0.here hx (hb hby own_d2_48) rfl rfl rfl ?_
      refine s_iload (pc' := 51) X0.here hx (hb hby own_d2_49) rfl rfl ?_
      refine s_laload (pc' := 52) (v := (.long (((ka.toInt64 * x) - (kb.toInt64 * y)) + z))) X0 hx hZ e0 V_r ⟨hi0, hi5⟩ gr (hb hby own_d2_51) rfl ?_
      refine s_ldcJ (pc' := 55) X0 hx hZ hown (hw _ (List.mem_of_getElem? (i := 17) rfl)) (hb hby own_d2_52) rfl ?_
      refine s_lcmp (pc' := 56) X0.here hx (hb hby own_d2_55) rfl ?_
      have hk2 : ¬ ((((ka.toInt64 * x) - (kb.toInt64 * y)) + z) < (-288230376151711744 : Int64)) := (hB h4 h3).1
      refine s_ifNo (pc' := 59) X0.here hx (hb hby own_d2_56) ((if0 _ _).trans (flt (fun q => hk2 ((lw_lt (((ka.toInt64 * x) - (kb.toInt64 * y)) + z) (-288230376151711744 : Int64)).mp q))).1) rfl ?_
      refine s_aloadN (pc' := 60) X0.here hx (hb hby own_d2_59) rfl rfl rfl ?_
      refine s_iload (pc' := 62) X0.here hx (hb hby own_d2_60) rfl rfl ?_
      refine s_laload (pc' := 63) (v := (.long (((ka.toInt64 * x) - (kb.toInt64 * y)) + z))) X0 hx hZ e0 V_r ⟨hi0, hi5⟩ gr (hb hby own_d2_62) rfl ?_
      refine s_ldcJ (pc' := 66) X0 hx hZ hown (hw _ (List.mem_of_getElem? (i := 18) rfl)) (hb hby own_d2_63) rfl ?_
      refine s_lcmp (pc' := 67) X0.here hx (hb hby own_d2_66) rfl ?_
      have hk3 : ¬ ((576460752303423488 : Int64) < (((ka.toInt64 * x) - (kb.toInt64 * y)) + z)) := (hB h4 h3).2
      refine s_ifNo (pc' := 70) X0.here hx (hb hby own_d2_67) ((if0 _ _).trans (flt (fun q => hk3 ((lw_gt (((ka.toInt64 * x) - (kb.toInt64 * y)) + z) (576460752303423488 : Int64)).mp q))).2.2.1) rfl ?_
      refine s_iconst (pc' := 71) X0.here hx (v := (1 : Int32)) (hb hby own_d2_70) rfl rfl ?_
      refine s_goto (pc' := 75) X0.here hx (hb hby own_d2_71) (by decide) (by decide) ?_
      obtain ⟨fs, hr, hrun, hended, hW, hsame⟩ := X0.leave (v := some (.int (1 : Int32))) (fun h => by rw [Bd.returns] at h; cases h)
      refine ⟨_, _, retN X0 hx (t := .boolean) Bd.returns (by simp) (hb hby own_d2_75) hr, hrun, hended, _, _, rfl, ?_, ⟨_, rfl⟩, hW, hsame.mono (by decide) (by decide)⟩
      show own_rm2_Q Z r a b P ka kb i kr kA kB kP vr va vb vp x y z h0 n0 _ s₁.heap _
      rw [e0]
      exact ⟨rfl, N0, rfl⟩
theorem own_pd0 : parseMethodDescriptor "([JI[JI[J)V" = some ⟨[(.array .long), .int, (.array .long), .int, (.array .long)], none⟩ := by decide +kernel
theorem own_pd1 : parseMethodDescriptor "([J[J[J[JIII)Z" = some ⟨[(.array .long), (.array .long), (.array .long), (.array .long), .int, .int, .int], some .boolean⟩ := by decide +kernel
theorem own_rm0_ef (m : MethodId) (p1 : Int32) (q0 : Int64) (q1 : Int64) (q2 : Int64) (q3 : Int64) (q4 : Int64) (P : Addr) (kP : ClassId) : entryFrame m #[(.int p1), (.long q0), (.long q1), (.long q2), (.long q3), (.long q4)] maxLocals = mkF m 0 #[.val (.int p1), .val (.long q0), .second, .val (.long q1), .second, .val (.long q2), .second, .val (.long q3), .second, .val (.long q4), .second, .unset, .unset, .unset, .unset, .unset, .unset, .unset, .unset, .unset, .unset, .unset, .unset, .unset] [] := by first | (simp [entryFrame, mkF, argsToLocals, Value.category, maxLocals]; done) | rfl
def own_rm0_Q (Z : State) (p1 : Int32) (q0 : Int64) (q1 : Int64) (q2 : Int64) (q3 : Int64) (q4 : Int64) (P : Addr) (kP : ClassId) (h0 : Heap) (n0 : Nat) (v : Option Value) (h : Heap) (L : List Loc) : Prop := v = some (.int 1) ∧ Fr n0 L
set_option maxRecDepth 65536 in
set_option maxHeartbeats 40000000 in
theorem own_rm0 (l : Launch) (Z : State) (a0 : Array Value) (hw : ∀ d ∈ tables_1, d.before a0 Z = true) (ws : List Jvm.Cond) (p1 : Int32) (q0 : Int64) (q1 : Int64) (q2 : Int64) (q3 : Int64) (q4 : Int64) (P : Addr) (kP : ClassId) (h0 : Heap) (n0 : Nat) (Z0 : n0 ≤ h0.size) (V_p : Arv Z h0 P kP .long (5 : Int32) [(.long (72057594037927904 : Int64)), (.long (35184372088831 : Int64)), (.long (0 : Int64)), (.long (536870912 : Int64)), (.long (137438953440 : Int64))] (.long (0 : Int64))) (S_p : Sta Z h0 "io/github/keyhold/core/P256Field" "P32" "[J" (.ref P)) :
    MetFree l x (head1 (Jvm.Cond.code x code maxLocals ret :: ws) room_1) (fun as_ U => as_ = #[(.int p1), (.long q0), (.long q1), (.long q2), (.long q3), (.long q4)] ∧ Z.Warmed39 U.vm ∧ U.heap = h0) (fun _ _ _ _ _ => True) (fun _ U o U' => ∃ v L, o = .returned v ∧ own_rm0_Q Z p1 q0 q1 q2 q3 q4 P kP h0 n0 v U'.heap L ∧ FrameEnd U o U' L room_1.cells room_1.slots) := by
  refine MetFree.of_bodySF (plainFor_of_name own_pn1) hisR ?_
  intro p e s m args below meth c s₁ Bd hml0 hP hK
  obtain ⟨rfl, hZ, hh⟩ := hP
  have hx := Bd.exec
  have hby := Bd.bytes
  have hml : c.maxLocals = 24 := hml0
  have hown : s.vm.findClass "io/github/keyhold/core/P256FieldFactorPinLaw" = some m.cls := findClass_of_methodNamed Bd.named
  have hnm := (name_of_methodNamed Bd.named Bd.method).1
  have X0 : Stand p l e room_1 s m #[(.int p1), (.long q0), (.long q1), (.long q2), (.long q3), (.long q4)] below meth c s₁ [] 0 0 := Stand.of_body Bd
  have e0 : s₁.heap = h0 := by rw [← hh, Bd.state]; rfl
  have N0 := Fr.nil n0
  refine own_begin (own_rm0_ef m p1 q0 q1 q2 q3 q4 P kP) ?_
  show Ends p.tables e below (s₁.setTop (mkF m 0 #[.val (.int p1), .val (.long q0), .second, .val (.long q1), .second, .val (.long q2), .second, .val (.long q3), .second, .val (.long q4), .second, .unset, .unset, .unset, .unset, .unset, .unset, .unset, .unset, .unset, .unset, .unset, .unset, .unset] [])) _
  refine s_ldcJ (pc' := 3) X0 hx hZ hown (hw _ (List.mem_of_getElem? (i := 0) rfl)) (hb hby at_0) rfl ?_
  refine s_lstore (pc' := 5) X0.here hx (l' := #[.val (.int p1), .val (.long q0), .second, .val (.long q1), .second, .val (.long q2), .second, .val (.long q3), .second, .val (.long q4), .second, .val (.long (72057594037927935 : Int64)), .second, .unset, .unset, .unset, .unset, .unset, .unset, .unset, .unset, .unset, .unset, .unset]) (hb hby at_3) rfl rfl ?_
  refine s_ldcJ (pc' := 8) X0 hx hZ hown (hw _ (List.mem_of_getElem? (i := 1) rfl)) (hb hby at_5) rfl ?_
  refine s_lstore (pc' := 10) X0.here hx (l' := #[.val (.int p1), .val (.long q0), .second, .val (.long q1), .second, .val (.long q2), .second, .val (.long q3), .second, .val (.long q4), .second, .val (.long (72057594037927935 : Int64)), .second, .val (.long (8589934591 : Int64)), .second, .unset, .unset, .unset, .unset, .unset, .unset, .unset, .unset, .unset]) (hb hby at_8) rfl rfl ?_
  refine s_iloadN (pc' := 11) X0.here hx (hb hby at_10) rfl rfl ?_
  refine s_sipush (pc' := 14) X0.here hx (v := (255 : Int32)) (hb hby at_11) rfl rfl ?_
  refine s_iand (pc' := 15) X0.here hx (hb hby at_14) rfl ?_
  refine s_bipush (pc' := 17) X0.here hx (v := (9 : Int32)) (hb hby at_15) rfl rfl ?_
  refine s_irem (pc' := 18) X0 hx (hb hby at_17) (by decide) rfl ?_
  obtain ⟨ka, hka⟩ : ∃ z : Int32, z = ((p1 &&& (255 : Int32)) % (9 : Int32)) := ⟨_, rfl⟩
  rw [← hka]
  have ka0 : 0 ≤ ka.toInt := hka ▸ own_k9 _
  refine s_istore (pc' := 20) X0.here hx (l' := #[.val (.int p1), .val (.long q0), .second, .val (.long q1), .second, .val (.long q2), .second, .val (.long q3), .second, .val (.long q4), .second, .val (.long (72057594037927935 : Int64)), .second, .val (.long (8589934591 : Int64)), .second, .val (.int ka), .unset, .unset, .unset, .unset, .unset, .unset, .unset, .unset]) (hb hby at_18) rfl rfl ?_
  refine s_iloadN (pc' := 21) X0.here hx (hb hby at_20) rfl rfl ?_
  refine s_bipush (pc' := 23) X0.here hx (v := (8 : Int32)) (hb hby at_21) rfl rfl ?_
  refine s_iushr (pc' := 24) X0.here hx (hb hby at_23) rfl ?_
  refine s_sipush (pc' := 27) X0.here hx (v := (255 : Int32)) (hb hby at_24) rfl rfl ?_
  refine s_iand (pc' := 28) X0.here hx (hb hby at_27) rfl ?_
  refine s_bipush (pc' := 30) X0.here hx (v := (9 : Int32)) (hb hby at_28) rfl rfl ?_
  refine s_irem (pc' := 31) X0 hx (hb hby at_30) (by decide) rfl ?_
  obtain ⟨kb, hkb⟩ : ∃ z : Int32, z = ((((p1.toUInt32 >>> ((8 : Int32) &&& 31).toUInt32).toInt32) &&& (255 : Int32)) % (9 : Int32)) := ⟨_, rfl⟩
  rw [← hkb]
  have kb0 : 0 ≤ kb.toInt := hkb ▸ own_k9 _
  refine s_istore (pc' := 33) X0.here hx (l' := #[.val (.int p1), .val (.long q0), .second, .val (.long q1), .second, .val (.long q2), .second, .val (.long q3), .second, .val (.long q4), .second, .val (.long (72057594037927935 : Int64)), .second, .val (.long (8589934591 : Int64)), .second, .val (.int ka), .val (.int kb), .unset, .unset, .unset, .unset, .unset, .unset, .unset]) (hb hby at_31) rfl rfl ?_
  refine s_iconst (pc' := 34) X0.here hx (v := (5 : Int32)) (hb hby at_33) rfl rfl ?_
  refine s_newP (pc' := 36) (cap := 5) X0 hx hZ (hw _ (List.mem_of_getElem? (i := 2) rfl)) e0 (hb hby at_34) (by decide) (by decide) (by decide) (by decide) (by decide) rfl fun T1 hp1 X1 e1 ka1 E1 aa gq1 A1 => ?_
  have g_aa : n0 ≤ aa := Nat.le_trans Z0 (Nat.le_of_eq gq1.symm)
  have ne2 : P ≠ aa := Nat.ne_of_lt (Nat.lt_of_lt_of_le V_p.lt (Nat.le_of_eq gq1.symm))
  have f3 := V_p.ext E1
  have f4 := S_p.ext E1
  have Z5 : n0 ≤ hp1.size := Nat.le_trans Z0 E1.1
  have V6 : Arv Z hp1 aa ka1 .long (5 : Int32) [(.long (0 : Int64)), (.long (0 : Int64)), (.long (0 : Int64)), (.long (0 : Int64)), (.long (0 : Int64))] (.long (0 : Int64)) := (Arv.new A1 (by decide)).pad (pad_rep [] (.long (0 : Int64)) 5)
  refine s_dup (pc' := 37) X1.here hx (hb hby at_36) rfl rfl ?_
  refine s_iconst (pc' := 38) X1.here hx (v := (0 : Int32)) (hb hby at_37) rfl rfl ?_
  refine s_lloadN (pc' := 39) X1.here hx (hb hby at_38) rfl rfl ?_
  refine s_lload (pc' := 41) X1.here hx (hb hby at_39) rfl rfl ?_
  refine s_land (pc' := 42) X1.here hx (hb hby at_41) rfl ?_
  refine s_putJ (pc' := 43) X1 hx hZ e1 V6 ⟨by decide, by decide⟩ 0 rfl (Nat.le_of_ble_eq_true rfl) (hb hby at_42) rfl fun T7 hp7 X7 e7 W7 Vw7 => ?_
  have V8 : Arv Z hp7 aa ka1 .long (5 : Int32) [(.long (q0 &&& (72057594037927935 : Int64))), (.long (0 : Int64)), (.long (0 : Int64)), (.long (0 : Int64)), (.long (0 : Int64))] (.long (0 : Int64)) := Vw7
  have N7 := Fr.snoc X7 N0 g_aa
  have f9 := f3.other W7 ne2
  have f10 := f4.wr W7
  have Z11 : n0 ≤ hp7.size := Nat.le_trans Z5 (Keep.of_wr W7).1
  obtain ⟨xa0, hxa0⟩ : ∃ y, y = (q0 &&& (72057594037927935 : Int64)) := ⟨_, rfl⟩
  rw [← hxa0] at V8
  have bxa0 : 0 ≤ xa0.toInt ∧ xa0.toInt ≤ 72057594037927935 := hxa0 ▸ own_m56 _
  refine s_dup (pc' := 44) X7.here hx (hb hby at_43) rfl rfl ?_
  refine s_iconst (pc' := 45) X7.here hx (v := (1 : Int32)) (hb hby at_44) rfl rfl ?_
  refine s_lloadN (pc' := 46) X7.here hx (hb hby at_45) rfl rfl ?_
  refine s_lload (pc' := 48) X7.here hx (hb hby at_46) rfl rfl ?_
  refine s_land (pc' := 49) X7.here hx (hb hby at_48) rfl ?_
  refine s_putJ (pc' := 50) X7 hx hZ e7 V8 ⟨by decide, by decide⟩ 1 rfl (Nat.le_of_ble_eq_true rfl) (hb hby at_49) rfl fun T12 hp12 X12 e12 W12 Vw12 => ?_
  have V13 : Arv Z hp12 aa ka1 .long (5 : Int32) [(.long xa0), (.long (q1 &&& (72057594037927935 : Int64))), (.long (0 : Int64)), (.long (0 : Int64)), (.long (0 : Int64))] (.long (0 : Int64)) := Vw12
  have N12 := Fr.snoc X12 N7 g_aa
  have f14 := f9.other W12 ne2
  have f15 := f10.wr W12
  have Z16 : n0 ≤ hp12.size := Nat.le_trans Z11 (Keep.of_wr W12).1
  obtain ⟨xa1, hxa1⟩ : ∃ y, y = (q1 &&& (72057594037927935 : Int64)) := ⟨_, rfl⟩
  rw [← hxa1] at V13
  have bxa1 : 0 ≤ xa1.toInt ∧ xa1.toInt ≤ 72057594037927935 := hxa1 ▸ own_m56 _
  refine s_dup (pc' := 51) X12.here hx (hb hby at_50) rfl rfl ?_
  refine s_iconst (pc' := 52) X12.here hx (v := (2 : Int32)) (hb hby at_51) rfl rfl ?_
  refine s_lload (pc' := 54) X12.here hx (hb hby at_52) rfl rfl ?_
  refine s_lload (pc' := 56) X12.here hx (hb hby at_54) rfl rfl ?_
  refine s_land (pc' := 57) X12.here hx (hb hby at_56) rfl ?_
  refine s_putJ (pc' := 58) X12 hx hZ e12 V13 ⟨by decide, by decide⟩ 2 rfl (Nat.le_of_ble_eq_true rfl) (hb hby at_57) rfl fun T17 hp17 X17 e17 W17 Vw17 => ?_
  have V18 : Arv Z hp17 aa ka1 .long (5 : Int32) [(.long xa0), (.long xa1), (.long (q2 &&& (72057594037927935 : Int64))), (.long (0 : Int64)), (.long (0 : Int64))] (.long (0 : Int64)) := Vw17
  have N17 := Fr.snoc X17 N12 g_aa
  have f19 := f14.other W17 ne2
  have f20 := f15.wr W17
  have Z21 : n0 ≤ hp17.size := Nat.le_trans Z16 (Keep.of_wr W17).1
  obtain ⟨xa2, hxa2⟩ : ∃ y, y = (q2 &&& (72057594037927935 : Int64)) := ⟨_, rfl⟩
  rw [← hxa2] at V18
  have bxa2 : 0 ≤ xa2.toInt ∧ xa2.toInt ≤ 72057594037927935 := hxa2 ▸ own_m56 _
  refine s_dup (pc' := 59) X17.here hx (hb hby at_58) rfl rfl ?_
  refine s_iconst (pc' := 60) X17.here hx (v := (3 : Int32)) (hb hby at_59) rfl rfl ?_
  refine s_lload (pc' := 62) X17.here hx (hb hby at_60) rfl rfl ?_
  refine s_lload (pc' := 64) X17.here hx (hb hby at_62) rfl rfl ?_
  refine s_land (pc' := 65) X17.here hx (hb hby at_64) rfl ?_
  refine s_putJ (pc' := 66) X17 hx hZ e17 V18 ⟨by decide, by decide⟩ 3 rfl (Nat.le_of_ble_eq_true rfl) (hb hby at_65) rfl fun T22 hp22 X22 e22 W22 Vw22 => ?_
  have V23 : Arv Z hp22 aa ka1 .long (5 : Int32) [(.long xa0), (.long xa1), (.long xa2), (.long (q3 &&& (72057594037927935 : Int64))), (.long (0 : Int64))] (.long (0 : Int64)) := Vw22
  have N22 := Fr.snoc X22 N17 g_aa
  have f24 := f19.other W22 ne2
  have f25 := f20.wr W22
  have Z26 : n0 ≤ hp22.size := Nat.le_trans Z21 (Keep.of_wr W22).1
  obtain ⟨xa3, hxa3⟩ : ∃ y, y = (q3 &&& (72057594037927935 : Int64)) := ⟨_, rfl⟩
  rw [← hxa3] at V23
  have bxa3 : 0 ≤ xa3.toInt ∧ xa3.toInt ≤ 72057594037927935 := hxa3 ▸ own_m56 _
  refine s_dup (pc' := 67) X22.here hx (hb hby at_66) rfl rfl ?_
  refine s_iconst (pc' := 68) X22.here hx (v := (4 : Int32)) (hb hby at_67) rfl rfl ?_
  refine s_lload (pc' := 70) X22.here hx (hb hby at_68) rfl rfl ?_
  refine s_lload (pc' := 72) X22.here hx (hb hby at_70) rfl rfl ?_
  refine s_land (pc' := 73) X22.here hx (hb hby at_72) rfl ?_
  refine s_putJ (pc' := 74) X22 hx hZ e22 V23 ⟨by decide, by decide⟩ 4 rfl (Nat.le_of_ble_eq_true rfl) (hb hby at_73) rfl fun T27 hp27 X27 e27 W27 Vw27 => ?_
  have V28 : Arv Z hp27 aa ka1 .long (5 : Int32) [(.long xa0), (.long xa1), (.long xa2), (.long xa3), (.long (q4 &&& (8589934591 : Int64)))] (.long (0 : Int64)) := Vw27
  have N27 := Fr.snoc X27 N22 g_aa
  have f29 := f24.other W27 ne2
  have f30 := f25.wr W27
  have Z31 : n0 ≤ hp27.size := Nat.le_trans Z26 (Keep.of_wr W27).1
  obtain ⟨xa4, hxa4⟩ : ∃ y, y = (q4 &&& (8589934591 : Int64)) := ⟨_, rfl⟩
  rw [← hxa4] at V28
  have bxa4 : 0 ≤ xa4.toInt ∧ xa4.toInt ≤ 72057594037927935 := hxa4 ▸ own_m33 _
  refine s_astore (pc' := 76) X27.here hx (l' := #[.val (.int p1), .val (.long q0), .second, .val (.long q1), .second, .val (.long q2), .second, .val (.long q3), .second, .val (.long q4), .second, .val (.long (72057594037927935 : Int64)), .second, .val (.long (8589934591 : Int64)), .second, .val (.int ka), .val (.int kb), .val (.ref aa), .unset, .unset, .unset, .unset, .unset, .unset]) (hb hby at_74) rfl rfl rfl ?_
  refine s_iconst (pc' := 77) X27.here hx (v := (5 : Int32)) (hb hby at_76) rfl rfl ?_
  refine s_newP (pc' := 79) (cap := 5) X27 hx hZ (hw _ (List.mem_of_getElem? (i := 2) rfl)) e27 (hb hby at_77) (by decide) (by decide) (by decide) (by decide) (by decide) rfl fun T32 hp32 X32 e32 ka32 E32 ab gq32 A32 => ?_
  have g_ab : n0 ≤ ab := Nat.le_trans Z31 (Nat.le_of_eq gq32.symm)
  have ne33 : P ≠ ab := Nat.ne_of_lt (Nat.lt_of_lt_of_le f29.lt (Nat.le_of_eq gq32.symm))
  have ne34 : aa ≠ ab := Nat.ne_of_lt (Nat.lt_of_lt_of_le V28.lt (Nat.le_of_eq gq32.symm))
  have f35 := f29.ext E32
  have f36 := f30.ext E32
  have f37 := V28.ext E32
  have Z38 : n0 ≤ hp32.size := Nat.le_trans Z31 E32.1
  have V39 : Arv Z hp32 ab ka32 .long (5 : Int32) [(.long (0 : Int64)), (.long (0 : Int64)), (.long (0 : Int64)), (.long (0 : Int64)), (.long (0 : Int64))] (.long (0 : Int64)) := (Arv.new A32 (by decide)).pad (pad_rep [] (.long (0 : Int64)) 5)
  refine s_dup (pc' := 80) X32.here hx (hb hby at_79) rfl rfl ?_
  refine s_iconst (pc' := 81) X32.here hx (v := (0 : Int32)) (hb hby at_80) rfl rfl ?_
  refine s_lload (pc' := 83) X32.here hx (hb hby at_81) rfl rfl ?_
  refine s_bipush (pc' := 85) X32.here hx (v := (8 : Int32)) (hb hby at_83) rfl rfl ?_
  refine s_lushr (pc' := 86) X32.here hx (hb hby at_85) rfl ?_
  refine s_putJ (pc' := 87) X32 hx hZ e32 V39 ⟨by decide, by decide⟩ 0 rfl (Nat.le_of_ble_eq_true rfl) (hb hby at_86) rfl fun T40 hp40 X40 e40 W40 Vw40 => ?_
  have V41 : Arv Z hp40 ab ka32 .long (5 : Int32) [(.long ((q2.toUInt64 >>> ((8 : Int32) &&& 0x3f).toInt64.toUInt64).toInt64)), (.long (0 : Int64)), (.long (0 : Int64)), (.long (0 : Int64)), (.long (0 : Int64))] (.long (0 : Int64)) := Vw40
  have N40 := Fr.snoc X40 N27 g_ab
  have f42 := f35.other W40 ne33
  have f43 := f36.wr W40
  have f44 := f37.other W40 ne34
  have Z45 : n0 ≤ hp40.size := Nat.le_trans Z38 (Keep.of_wr W40).1
  obtain ⟨xb0, hxb0⟩ : ∃ y, y = ((q2.toUInt64 >>> ((8 : Int32) &&& 0x3f).toInt64.toUInt64).toInt64) := ⟨_, rfl⟩
  rw [← hxb0] at V41
  have bxb0 : 0 ≤ xb0.toInt ∧ xb0.toInt ≤ 72057594037927935 := hxb0 ▸ own_u8 _
  refine s_dup (pc' := 88) X40.here hx (hb hby at_87) rfl rfl ?_
  refine s_iconst (pc' := 89) X40.here hx (v := (1 : Int32)) (hb hby at_88) rfl rfl ?_
  refine s_lload (pc' := 91) X40.here hx (hb hby at_89) rfl rfl ?_
  refine s_bipush (pc' := 93) X40.here hx (v := (8 : Int32)) (hb hby at_91) rfl rfl ?_
  refine s_lushr (pc' := 94) X40.here hx (hb hby at_93) rfl ?_
  refine s_putJ (pc' := 95) X40 hx hZ e40 V41 ⟨by decide, by decide⟩ 1 rfl (Nat.le_of_ble_eq_true rfl) (hb hby at_94) rfl fun T46 hp46 X46 e46 W46 Vw46 => ?_
  have V47 : Arv Z hp46 ab ka32 .long (5 : Int32) [(.long xb0), (.long ((q3.toUInt64 >>> ((8 : Int32) &&& 0x3f).toInt64.toUInt64).toInt64)), (.long (0 : Int64)), (.long (0 : Int64)), (.long (0 : Int64))] (.long (0 : Int64)) := Vw46
  have N46 := Fr.snoc X46 N40 g_ab
  have f48 := f42.other W46 ne33
  have f49 := f43.wr W46
  have f50 := f44.other W46 ne34
  have Z51 : n0 ≤ hp46.size := Nat.le_trans Z45 (Keep.of_wr W46).1
  obtain ⟨xb1, hxb1⟩ : ∃ y, y = ((q3.toUInt64 >>> ((8 : Int32) &&& 0x3f).toInt64.toUInt64).toInt64) := ⟨_, rfl⟩
  rw [← hxb1] at V47
  have bxb1 : 0 ≤ xb1.toInt ∧ xb1.toInt ≤ 72057594037927935 := hxb1 ▸ own_u8 _
  refine s_dup (pc' := 96) X46.here hx (hb hby at_95) rfl rfl ?_
  refine s_iconst (pc' := 97) X46.here hx (v := (2 : Int32)) (hb hby at_96) rfl rfl ?_
  refine s_lload (pc' := 99) X46.here hx (hb hby at_97) rfl rfl ?_
  refine s_bipush (pc' := 101) X46.here hx (v := (8 : Int32)) (hb hby at_99) rfl rfl ?_
  refine s_lushr (pc' := 102) X46.here hx (hb hby at_101) rfl ?_
  refine s_putJ (pc' := 103) X46 hx hZ e46 V47 ⟨by decide, by decide⟩ 2 rfl (Nat.le_of_ble_eq_true rfl) (hb hby at_102) rfl fun T52 hp52 X52 e52 W52 Vw52 => ?_
  have V53 : Arv Z hp52 ab ka32 .long (5 : Int32) [(.long xb0), (.long xb1), (.long ((q4.toUInt64 >>> ((8 : Int32) &&& 0x3f).toInt64.toUInt64).toInt64)), (.long (0 : Int64)), (.long (0 : Int64))] (.long (0 : Int64)) := Vw52
  have N52 := Fr.snoc X52 N46 g_ab
  have f54 := f48.other W52 ne33
  have f55 := f49.wr W52
  have f56 := f50.other W52 ne34
  have Z57 : n0 ≤ hp52.size := Nat.le_trans Z51 (Keep.of_wr W52).1
  obtain ⟨xb2, hxb2⟩ : ∃ y, y = ((q4.toUInt64 >>> ((8 : Int32) &&& 0x3f).toInt64.toUInt64).toInt64) := ⟨_, rfl⟩
  rw [← hxb2] at V53
  have bxb2 : 0 ≤ xb2.toInt ∧ xb2.toInt ≤ 72057594037927935 := hxb2 ▸ own_u8 _
  refine s_dup (pc' := 104) X52.here hx (hb hby at_103) rfl rfl ?_
  refine s_iconst (pc' := 105) X52.here hx (v := (3 : Int32)) (hb hby at_104) rfl rfl ?_
  refine s_lloadN (pc' := 106) X52.here hx (hb hby at_105) rfl rfl ?_
  refine s_bipush (pc' := 108) X52.here hx (v := (8 : Int32)) (hb hby at_106) rfl rfl ?_
  refine s_lushr (pc' := 109) X52.here hx (hb hby at_108) rfl ?_
  refine s_putJ (pc' := 110) X52 hx hZ e52 V53 ⟨by decide, by decide⟩ 3 rfl (Nat.le_of_ble_eq_true rfl) (hb hby at_109) rfl fun T58 hp58 X58 e58 W58 Vw58 => ?_
  have V59 : Arv Z hp58 ab ka32 .long (5 : Int32) [(.long xb0), (.long xb1), (.long xb2), (.long ((q0.toUInt64 >>> ((8 : Int32) &&& 0x3f).toInt64.toUInt64).toInt64)), (.long (0 : Int64))] (.long (0 : Int64)) := Vw58
  have N58 := Fr.snoc X58 N52 g_ab
  have f60 := f54.other W58 ne33
  have f61 := f55.wr W58
  have f62 := f56.other W58 ne34
  have Z63 : n0 ≤ hp58.size := Nat.le_trans Z57 (Keep.of_wr W58).1
  obtain ⟨xb3, hxb3⟩ : ∃ y, y = ((q0.toUInt64 >>> ((8 : Int32) &&& 0x3f).toInt64.toUInt64).toInt64) := ⟨_, rfl⟩
  rw [← hxb3] at V59
  have bxb3 : 0 ≤ xb3.toInt ∧ xb3.toInt ≤ 72057594037927935 := hxb3 ▸ own_u8 _
  refine s_dup (pc' := 111) X58.here hx (hb hby at_110) rfl rfl ?_
  refine s_iconst (pc' := 112) X58.here hx (v := (4 : Int32)) (hb hby at_111) rfl rfl ?_
  refine s_lloadN (pc' := 113) X58.here hx (hb hby at_112) rfl rfl ?_
  refine s_bipush (pc' := 115) X58.here hx (v := (8 : Int32)) (hb hby at_113) rfl rfl ?_
  refine s_lushr (pc' := 116) X58.here hx (hb hby at_115) rfl ?_
  refine s_lload (pc' := 118) X58.here hx (hb hby at_116) rfl rfl ?_
  refine s_land (pc' := 119) X58.here hx (hb hby at_118) rfl ?_
  refine s_putJ (pc' := 120) X58 hx hZ e58 V59 ⟨by decide, by decide⟩ 4 rfl (Nat.le_of_ble_eq_true rfl) (hb hby at_119) rfl fun T64 hp64 X64 e64 W64 Vw64 => ?_
  have V65 : Arv Z hp64 ab ka32 .long (5 : Int32) [(.long xb0), (.long xb1), (.long xb2), (.long xb3), (.long (((q1.toUInt64 >>> ((8 : Int32) &&& 0x3f).toInt64.toUInt64).toInt64) &&& (8589934591 : Int64)))] (.long (0 : Int64)) := Vw64
  have N64 := Fr.snoc X64 N58 g_ab
  have f66 := f60.other W64 ne33
  have f67 := f61.wr W64
  have f68 := f62.other W64 ne34
  have Z69 : n0 ≤ hp64.size := Nat.le_trans Z63 (Keep.of_wr W64).1
  obtain ⟨xb4, hxb4⟩ : ∃ y, y = (((q1.toUInt64 >>> ((8 : Int32) &&& 0x3f).toInt64.toUInt64).toInt64) &&& (8589934591 : Int64)) := ⟨_, rfl⟩
  rw [← hxb4] at V65
  have bxb4 : 0 ≤ xb4.toInt ∧ xb4.toInt ≤ 72057594037927935 := hxb4 ▸ own_m33 _
  refine s_astore (pc' := 122) X64.here hx (l' := #[.val (.int p1), .val (.long q0), .second, .val (.long q1), .second, .val (.long q2), .second, .val (.long q3), .second, .val (.long q4), .second, .val (.long (72057594037927935 : Int64)), .second, .val (.long (8589934591 : Int64)), .second, .val (.int ka), .val (.int kb), .val (.ref aa), .val (.ref ab), .unset, .unset, .unset, .unset, .unset]) (hb hby at_120) rfl rfl rfl ?_
  refine s_iconst (pc' := 123) X64.here hx (v := (5 : Int32)) (hb hby at_122) rfl rfl ?_
  refine s_newP (pc' := 125) (cap := 5) X64 hx hZ (hw _ (List.mem_of_getElem? (i := 2) rfl)) e64 (hb hby at_123) (by decide) (by decide) (by decide) (by decide) (by decide) rfl fun T70 hp70 X70 e70 ka70 E70 ar gq70 A70 => ?_
  have g_ar : n0 ≤ ar := Nat.le_trans Z69 (Nat.le_of_eq gq70.symm)
  have ne71 : P ≠ ar := Nat.ne_of_lt (Nat.lt_of_lt_of_le f66.lt (Nat.le_of_eq gq70.symm))
  have ne72 : aa ≠ ar := Nat.ne_of_lt (Nat.lt_of_lt_of_le f68.lt (Nat.le_of_eq gq70.symm))
  have ne73 : ab ≠ ar := Nat.ne_of_lt (Nat.lt_of_lt_of_le V65.lt (Nat.le_of_eq gq70.symm))
  have f74 := f66.ext E70
  have f75 := f67.ext E70
  have f76 := f68.ext E70
  have f77 := V65.ext E70
  have Z78 : n0 ≤ hp70.size := Nat.le_trans Z69 E70.1
  have V79 : Arv Z hp70 ar ka70 .long (5 : Int32) [(.long (0 : Int64)), (.long (0 : Int64)), (.long (0 : Int64)), (.long (0 : Int64)), (.long (0 : Int64))] (.long (0 : Int64)) := (Arv.new A70 (by decide)).pad (pad_rep [] (.long (0 : Int64)) 5)
  refine s_dup (pc' := 126) X70.here hx (hb hby at_125) rfl rfl ?_
  refine s_iconst (pc' := 127) X70.here hx (v := (0 : Int32)) (hb hby at_126) rfl rfl ?_
  refine s_lload (pc' := 129) X70.here hx (hb hby at_127) rfl rfl ?_
  refine s_putJ (pc' := 130) X70 hx hZ e70 V79 ⟨by decide, by decide⟩ 0 rfl (Nat.le_of_ble_eq_true rfl) (hb hby at_129) rfl fun T80 hp80 X80 e80 W80 Vw80 => ?_
  have V81 : Arv Z hp80 ar ka70 .long (5 : Int32) [(.long q4), (.long (0 : Int64)), (.long (0 : Int64)), (.long (0 : Int64)), (.long (0 : Int64))] (.long (0 : Int64)) := Vw80
  have N80 := Fr.snoc X80 N64 g_ar
  have f82 := f74.other W80 ne71
  have f83 := f75.wr W80
  have f84 := f76.other W80 ne72
  have f85 := f77.other W80 ne73
  have Z86 : n0 ≤ hp80.size := Nat.le_trans Z78 (Keep.of_wr W80).1
  refine s_dup (pc' := 131) X80.here hx (hb hby at_130) rfl rfl ?_
  refine s_iconst (pc' := 132) X80.here hx (v := (1 : Int32)) (hb hby at_131) rfl rfl ?_
  refine s_lload (pc' := 134) X80.here hx (hb hby at_132) rfl rfl ?_
  refine s_putJ (pc' := 135) X80 hx hZ e80 V81 ⟨by decide, by decide⟩ 1 rfl (Nat.le_of_ble_eq_true rfl) (hb hby at_134) rfl fun T87 hp87 X87 e87 W87 Vw87 => ?_
  have V88 : Arv Z hp87 ar ka70 .long (5 : Int32) [(.long q4), (.long q3), (.long (0 : Int64)), (.long (0 : Int64)), (.long (0 : Int64))] (.long (0 : Int64)) := Vw87
  have N87 := Fr.snoc X87 N80 g_ar
  have f89 := f82.other W87 ne71
  have f90 := f83.wr W87
  have f91 := f84.other W87 ne72
  have f92 := f85.other W87 ne73
  have Z93 : n0 ≤ hp87.size := Nat.le_trans Z86 (Keep.of_wr W87).1
  refine s_dup (pc' := 136) X87.here hx (hb hby at_135) rfl rfl ?_
  refine s_iconst (pc' := 137) X87.here hx (v := (2 : Int32)) (hb hby at_136) rfl rfl ?_
  refine s_lload (pc' := 139) X87.here hx (hb hby at_137) rfl rfl ?_
  refine s_putJ (pc' := 140) X87 hx hZ e87 V88 ⟨by decide, by decide⟩ 2 rfl (Nat.le_of_ble_eq_true rfl) (hb hby at_139) rfl fun T94 hp94 X94 e94 W94 Vw94 => ?_
  have V95 : Arv Z hp94 ar ka70 .long (5 : Int32) [(.long q4), (.long q3), (.long q2), (.long (0 : Int64)), (.long (0 : Int64))] (.long (0 : Int64)) := Vw94
  have N94 := Fr.snoc X94 N87 g_ar
  have f96 := f89.other W94 ne71
  have f97 := f90.wr W94
  have f98 := f91.other W94 ne72
  have f99 := f92.other W94 ne73
  have Z100 : n0 ≤ hp94.size := Nat.le_trans Z93 (Keep.of_wr W94).1
  refine s_dup (pc' := 141) X94.here hx (hb hby at_140) rfl rfl ?_
  refine s_iconst (pc' := 142) X94.here hx (v := (3 : Int32)) (hb hby at_141) rfl rfl ?_
  refine s_lloadN (pc' := 143) X94.here hx (hb hby at_142) rfl rfl ?_
  refine s_putJ (pc' := 144) X94 hx hZ e94 V95 ⟨by decide, by decide⟩ 3 rfl (Nat.le_of_ble_eq_true rfl) (hb hby at_143) rfl fun T101 hp101 X101 e101 W101 Vw101 => ?_
  have V102 : Arv Z hp101 ar ka70 .long (5 : Int32) [(.long q4), (.long q3), (.long q2), (.long q1), (.long (0 : Int64))] (.long (0 : Int64)) := Vw101
  have N101 := Fr.snoc X101 N94 g_ar
  have f103 := f96.other W101 ne71
  have f104 := f97.wr W101
  have f105 := f98.other W101 ne72
  have f106 := f99.other W101 ne73
  have Z107 : n0 ≤ hp101.size := Nat.le_trans Z100 (Keep.of_wr W101).1
  refine s_dup (pc' := 145) X101.here hx (hb hby at_144) rfl rfl ?_
  refine s_iconst (pc' := 146) X101.here hx (v := (4 : Int32)) (hb hby at_145) rfl rfl ?_
  refine s_lloadN (pc' := 147) X101.here hx (hb hby at_146) rfl rfl ?_
  refine s_putJ (pc' := 148) X101 hx hZ e101 V102 ⟨by decide, by decide⟩ 4 rfl (Nat.le_of_ble_eq_true rfl) (hb hby at_147) rfl fun T108 hp108 X108 e108 W108 Vw108 => ?_
  have V109 : Arv Z hp108 ar ka70 .long (5 : Int32) [(.long q4), (.long q3), (.long q2), (.long q1), (.long q0)] (.long (0 : Int64)) := Vw108
  have N108 := Fr.snoc X108 N101 g_ar
  have f110 := f103.other W108 ne71
  have f111 := f104.wr W108
  have f112 := f105.other W108 ne72
  have f113 := f106.other W108 ne73
  have Z114 : n0 ≤ hp108.size := Nat.le_trans Z107 (Keep.of_wr W108).1
  refine s_astore (pc' := 150) X108.here hx (l' := #[.val (.int p1), .val (.long q0), .second, .val (.long q1), .second, .val (.long q2), .second, .val (.long q3), .second, .val (.long q4), .second, .val (.long (72057594037927935 : Int64)), .second, .val (.long (8589934591 : Int64)), .second, .val (.int ka), .val (.int kb), .val (.ref aa), .val (.ref ab), .val (.ref ar), .unset, .unset, .unset, .unset]) (hb hby at_148) rfl rfl rfl ?_
  refine s_iconst (pc' := 151) X108.here hx (v := (5 : Int32)) (hb hby at_150) rfl rfl ?_
  refine s_newP (pc' := 153) (cap := 5) X108 hx hZ (hw _ (List.mem_of_getElem? (i := 2) rfl)) e108 (hb hby at_151) (by decide) (by decide) (by decide) (by decide) (by decide) rfl fun T115 hp115 X115 e115 ka115 E115 ap gq115 A115 => ?_
  have g_ap : n0 ≤ ap := Nat.le_trans Z114 (Nat.le_of_eq gq115.symm)
  have ne116 : P ≠ ap := Nat.ne_of_lt (Nat.lt_of_lt_of_le f110.lt (Nat.le_of_eq gq115.symm))
  have ne117 : aa ≠ ap := Nat.ne_of_lt (Nat.lt_of_lt_of_le f112.lt (Nat.le_of_eq gq115.symm))
  have ne118 : ab ≠ ap := Nat.ne_of_lt (Nat.lt_of_lt_of_le f113.lt (Nat.le_of_eq gq115.symm))
  have ne119 : ar ≠ ap := Nat.ne_of_lt (Nat.lt_of_lt_of_le V109.lt (Nat.le_of_eq gq115.symm))
  have f120 := f110.ext E115
  have f121 := f111.ext E115
  have f122 := f112.ext E115
  have f123 := f113.ext E115
  have f124 := V109.ext E115
  have Z125 : n0 ≤ hp115.size := Nat.le_trans Z114 E115.1
  have V126 : Arv Z hp115 ap ka115 .long (5 : Int32) [(.long (0 : Int64)), (.long (0 : Int64)), (.long (0 : Int64)), (.long (0 : Int64)), (.long (0 : Int64))] (.long (0 : Int64)) := (Arv.new A115 (by decide)).pad (pad_rep [] (.long (0 : Int64)) 5)
  refine s_dup (pc' := 154) X115.here hx (hb hby at_153) rfl rfl ?_
  refine s_iconst (pc' := 155) X115.here hx (v := (0 : Int32)) (hb hby at_154) rfl rfl ?_
  refine s_ldcJ (pc' := 158) X115 hx hZ hown (hw _ (List.mem_of_getElem? (i := 3) rfl)) (hb hby at_155) rfl ?_
  refine s_putJ (pc' := 159) X115 hx hZ e115 V126 ⟨by decide, by decide⟩ 0 rfl (Nat.le_of_ble_eq_true rfl) (hb hby at_158) rfl fun T127 hp127 X127 e127 W127 Vw127 => ?_
  have V128 : Arv Z hp127 ap ka115 .long (5 : Int32) [(.long (72057594037927904 : Int64)), (.long (0 : Int64)), (.long (0 : Int64)), (.long (0 : Int64)), (.long (0 : Int64))] (.long (0 : Int64)) := Vw127
  have N127 := Fr.snoc X127 N108 g_ap
  have f129 := f120.other W127 ne116
  have f130 := f121.wr W127
  have f131 := f122.other W127 ne117
  have f132 := f123.other W127 ne118
  have f133 := f124.other W127 ne119
  have Z134 : n0 ≤ hp127.size := Nat.le_trans Z125 (Keep.of_wr W127).1
  refine s_dup (pc' := 160) X127.here hx (hb hby at_159) rfl rfl ?_
  refine s_iconst (pc' := 161) X127.here hx (v := (1 : Int32)) (hb hby at_160) rfl rfl ?_
  refine s_ldcJ (pc' := 164) X127 hx hZ hown (hw _ (List.mem_of_getElem? (i := 4) rfl)) (hb hby at_161) rfl ?_
  refine s_putJ (pc' := 165) X127 hx hZ e127 V128 ⟨by decide, by decide⟩ 1 rfl (Nat.le_of_ble_eq_true rfl) (hb hby at_164) rfl fun T135 hp135 X135 e135 W135 Vw135 => ?_
  have V136 : Arv Z hp135 ap ka115 .long (5 : Int32) [(.long (72057594037927904 : Int64)), (.long (35184372088831 : Int64)), (.long (0 : Int64)), (.long (0 : Int64)), (.long (0 : Int64))] (.long (0 : Int64)) := Vw135
  have N135 := Fr.snoc X135 N127 g_ap
  have f137 := f129.other W135 ne116
  have f138 := f130.wr W135
  have f139 := f131.other W135 ne117
  have f140 := f132.other W135 ne118
  have f141 := f133.other W135 ne119
  have Z142 : n0 ≤ hp135.size := Nat.le_trans Z134 (Keep.of_wr W135).1
  refine s_dup (pc' := 166) X135.here hx (hb hby at_165) rfl rfl ?_
  refine s_iconst (pc' := 167) X135.here hx (v := (2 : Int32)) (hb hby at_166) rfl rfl ?_
  refine s_lconst (pc' := 168) X135.here hx (v := (0 : Int64)) (hb hby at_167) rfl rfl ?_
  refine s_putJ (pc' := 169) X135 hx hZ e135 V136 ⟨by decide, by decide⟩ 2 rfl (Nat.le_of_ble_eq_true rfl) (hb hby at_168) rfl fun T143 hp143 X143 e143 W143 Vw143 => ?_
  have V144 : Arv Z hp143 ap ka115 .long (5 : Int32) [(.long (72057594037927904 : Int64)), (.long (35184372088831 : Int64)), (.long (0 : Int64)), (.long (0 : Int64)), (.long (0 : Int64))] (.long (0 : Int64)) := Vw143
  have N143 := Fr.snoc X143 N135 g_ap
  have f145 := f137.other W143 ne116
  have f146 := f138.wr W143
  have f147 := f139.other W143 ne117
  have f148 := f140.other W143 ne118
  have f149 := f141.other W143 ne119
  have Z150 : n0 ≤ hp143.size := Nat.le_trans Z142 (Keep.of_wr W143).1
  refine s_dup (pc' := 170) X143.here hx (hb hby at_169) rfl rfl ?_
  refine s_iconst (pc' := 171) X143.here hx (v := (3 : Int32)) (hb hby at_170) rfl rfl ?_
  refine s_ldcJ (pc' := 174) X143 hx hZ hown (hw _ (List.mem_of_getElem? (i := 5) rfl)) (hb hby at_171) rfl ?_
  refine s_putJ (pc' := 175) X143 hx hZ e143 V144 ⟨by decide, by decide⟩ 3 rfl (Nat.le_of_ble_eq_true rfl) (hb hby at_174) rfl fun T151 hp151 X151 e151 W151 Vw151 => ?_
  have V152 : Arv Z hp151 ap ka115 .long (5 : Int32) [(.long (72057594037927904 : Int64)), (.long (35184372088831 : Int64)), (.long (0 : Int64)), (.long (536870912 : Int64)), (.long (0 : Int64))] (.long (0 : Int64)) := Vw151
  have N151 := Fr.snoc X151 N143 g_ap
  have f153 := f145.other W151 ne116
  have f154 := f146.wr W151
  have f155 := f147.other W151 ne117
  have f156 := f148.other W151 ne118
  have f157 := f149.other W151 ne119
  have Z158 : n0 ≤ hp151.size := Nat.le_trans Z150 (Keep.of_wr W151).1
  refine s_dup (pc' := 176) X151.here hx (hb hby at_175) rfl rfl ?_
  refine s_iconst (pc' := 177) X151.here hx (v := (4 : Int32)) (hb hby at_176) rfl rfl ?_
  refine s_ldcJ (pc' := 180) X151 hx hZ hown (hw _ (List.mem_of_getElem? (i := 6) rfl)) (hb hby at_177) rfl ?_
  refine s_putJ (pc' := 181) X151 hx hZ e151 V152 ⟨by decide, by decide⟩ 4 rfl (Nat.le_of_ble_eq_true rfl) (hb hby at_180) rfl fun T159 hp159 X159 e159 W159 Vw159 => ?_
  have V160 : Arv Z hp159 ap ka115 .long (5 : Int32) [(.long (72057594037927904 : Int64)), (.long (35184372088831 : Int64)), (.long (0 : Int64)), (.long (536870912 : Int64)), (.long (137438953440 : Int64))] (.long (0 : Int64)) := Vw159
  have N159 := Fr.snoc X159 N151 g_ap
  have f161 := f153.other W159 ne116
  have f162 := f154.wr W159
  have f163 := f155.other W159 ne117
  have f164 := f156.other W159 ne118
  have f165 := f157.other W159 ne119
  have Z166 : n0 ≤ hp159.size := Nat.le_trans Z158 (Keep.of_wr W159).1
  refine s_astore (pc' := 183) X159.here hx (l' := #[.val (.int p1), .val (.long q0), .second, .val (.long q1), .second, .val (.long q2), .second, .val (.long q3), .second, .val (.long q4), .second, .val (.long (72057594037927935 : Int64)), .second, .val (.long (8589934591 : Int64)), .second, .val (.int ka), .val (.int kb), .val (.ref aa), .val (.ref ab), .val (.ref ar), .val (.ref ap), .unset, .unset, .unset]) (hb hby at_181) rfl rfl rfl ?_
  refine s_aload (pc' := 185) X159.here hx (hb hby at_183) rfl rfl rfl ?_
  refine s_iload (pc' := 187) X159.here hx (hb hby at_185) rfl rfl ?_
  refine s_aload (pc' := 189) X159.here hx (hb hby at_187) rfl rfl rfl ?_
  refine s_iload (pc' := 191) X159.here hx (hb hby at_189) rfl rfl ?_
  refine s_aload (pc' := 193) X159.here hx (hb hby at_191) rfl rfl rfl ?_
  refine s_callS (pc' := 196) (W := 0) X159 hx hZ  hown (hw _ (List.mem_of_getElem? (i := 7) rfl)) (hw _ (List.mem_of_getElem? (i := 8) rfl)) (hw _ (List.mem_of_getElem? (i := 9) rfl)) (hw _ (List.mem_of_getElem? (i := 10) rfl)) (by decide) e159 (own_rm1 l Z a0 hw [] ar ka aa kb ab P ka70 ka1 ka32 kP q4 q3 q2 q1 q0 xa0 xa1 xa2 xa3 xa4 xb0 xb1 xb2 xb3 xb4 hp159 n0 Z166 f165 f163 f164 f161 f162 ne72 ne73 ne71 g_ar) (by rw [hml]; rfl) [(.ref ar), (.int ka), (.ref aa), (.int kb), (.ref ab)] [] rfl (lenOf own_pd0 rfl) rfl (Nat.le_of_eq rfl) (by decide) (by decide) (by decide) (by decide) rfl (hb hby at_193) fun T167 v167 Lc167 X167 hQ167 => ?_
  obtain ⟨rfl, Nq167, Kq167, Vr⟩ := hQ167
  have N167 := Fr.app N159 Nq167
  have f168 := f161.keep Kq167 (ninS ne71 nin0)
  have f169 := f163.keep Kq167 (ninS ne72 nin0)
  have f170 := f164.keep Kq167 (ninS ne73 nin0)
  have f171 := V160.keep Kq167 (ninS (Ne.symm ne119) nin0)
  have Z172 : n0 ≤ T167.heap.size := Nat.le_trans Z166 Kq167.1
  show Ends p.tables e below (T167.setTop (mkF m 196 #[.val (.int p1), .val (.long q0), .second, .val (.long q1), .second, .val (.long q2), .second, .val (.long q3), .second, .val (.long q4), .second, .val (.long (72057594037927935 : Int64)), .second, .val (.long (8589934591 : Int64)), .second, .val (.int ka), .val (.int kb), .val (.ref aa), .val (.ref ab), .val (.ref ar), .val (.ref ap), .unset, .unset, .unset] [])) _
  refine s_aload (pc' := 198) X167.here hx (hb hby at_196) rfl rfl rfl ?_
  refine s_aload (pc' := 200) X167.here hx (hb hby at_198) rfl rfl rfl ?_
  refine s_aload (pc' := 202) X167.here hx (hb hby at_200) rfl rfl rfl ?_
  refine s_aload (pc' := 204) X167.here hx (hb hby at_202) rfl rfl rfl ?_
  refine s_iload (pc' := 206) X167.here hx (hb hby at_204) rfl rfl ?_
  refine s_iload (pc' := 208) X167.here hx (hb hby at_206) rfl rfl ?_
  refine s_iconst (pc' := 209) X167.here hx (v := (0 : Int32)) (hb hby at_208) rfl rfl ?_
  refine s_callS (pc' := 212) (W := 0) X167 hx hZ  hown (hw _ (List.mem_of_getElem? (i := 13) rfl)) (hw _ (List.mem_of_getElem? (i := 14) rfl)) (hw _ (List.mem_of_getElem? (i := 15) rfl)) (hw _ (List.mem_of_getElem? (i := 16) rfl)) (by decide) rfl (own_rm2 l Z a0 hw [] ar aa ab ap ka kb (0 : Int32) ka70 ka1 ka32 ka115 [(.long (((ka.toInt64 * xa0) - (kb.toInt64 * xb0)) + (72057594037927904 : Int64))), (.long (((ka.toInt64 * xa1) - (kb.toInt64 * xb1)) + (35184372088831 : Int64))), (.long (((ka.toInt64 * xa2) - (kb.toInt64 * xb2)) + (0 : Int64))), (.long (((ka.toInt64 * xa3) - (kb.toInt64 * xb3)) + (536870912 : Int64))), (.long (((ka.toInt64 * xa4) - (kb.toInt64 * xb4)) + (137438953440 : Int64)))] [(.long xa0), (.long xa1), (.long xa2), (.long xa3), (.long xa4)] [(.long xb0), (.long xb1), (.long xb2), (.long xb3), (.long xb4)] [(.long (72057594037927904 : Int64)), (.long (35184372088831 : Int64)), (.long (0 : Int64)), (.long (536870912 : Int64)), (.long (137438953440 : Int64))] xa0 xb0 (72057594037927904 : Int64) T167.heap n0 Z172 Vr f169 f170 f171 (by decide) (by decide) rfl rfl rfl rfl (fun h4 h3 => own_bd ka0 kb0 bxa0 bxb0 (by decide) h4 h3)) (by rw [hml]; rfl) [(.ref ar), (.ref aa), (.ref ab), (.ref ap), (.int ka), (.int kb), (.int (0 : Int32))] [] rfl (lenOf own_pd1 rfl) rfl (Nat.le_of_eq rfl) (by decide) (by decide) (by decide) (by decide) rfl (hb hby at_209) fun T173 v173 Lc173 X173 hQ173 => ?_
  obtain ⟨rfl, Nq173, eh173⟩ := hQ173
  have N173 := Fr.app N167 Nq173
  show Ends p.tables e below (T173.setTop (mkF m 212 #[.val (.int p1), .val (.long q0), .second, .val (.long q1), .second, .val (.long q2), .second, .val (.long q3), .second, .val (.long q4), .second, .val (.long (72057594037927935 : Int64)), .second, .val (.long (8589934591 : Int64)), .second, .val (.int ka), .val (.int kb), .val (.ref aa), .val (.ref ab), .val (.ref ar), .val (.ref ap), .unset, .unset, .unset] [(.int (1 : Int32))])) _
  have hk174 : ¬ ((1 : Int32) = (0 : Int32)) := by decide
  refine s_ifNo (pc' := 215) X173.here hx (hb hby at_212) ((if0 _ _).trans (feq hk174).1) rfl ?_
  refine s_aload (pc' := 217) X173.here hx (hb hby at_215) rfl rfl rfl ?_
  refine s_aload (pc' := 219) X173.here hx (hb hby at_217) rfl rfl rfl ?_
  refine s_aload (pc' := 221) X173.here hx (hb hby at_219) rfl rfl rfl ?_
  refine s_aload (pc' := 223) X173.here hx (hb hby at_221) rfl rfl rfl ?_
  refine s_iload (pc' := 225) X173.here hx (hb hby at_223) rfl rfl ?_
  refine s_iload (pc' := 227) X173.here hx (hb hby at_225) rfl rfl ?_
  refine s_iconst (pc' := 228) X173.here hx (v := (1 : Int32)) (hb hby at_227) rfl rfl ?_
  refine s_callS (pc' := 231) (W := 0) X173 hx hZ  hown (hw _ (List.mem_of_getElem? (i := 13) rfl)) (hw _ (List.mem_of_getElem? (i := 14) rfl)) (hw _ (List.mem_of_getElem? (i := 15) rfl)) (hw _ (List.mem_of_getElem? (i := 16) rfl)) (by decide) eh173 (own_rm2 l Z a0 hw [] ar aa ab ap ka kb (1 : Int32) ka70 ka1 ka32 ka115 [(.long (((ka.toInt64 * xa0) - (kb.toInt64 * xb0)) + (72057594037927904 : Int64))), (.long (((ka.toInt64 * xa1) - (kb.toInt64 * xb1)) + (35184372088831 : Int64))), (.long (((ka.toInt64 * xa2) - (kb.toInt64 * xb2)) + (0 : Int64))), (.long (((ka.toInt64 * xa3) - (kb.toInt64 * xb3)) + (536870912 : Int64))), (.long (((ka.toInt64 * xa4) - (kb.toInt64 * xb4)) + (137438953440 : Int64)))] [(.long xa0), (.long xa1), (.long xa2), (.long xa3), (.long xa4)] [(.long xb0), (.long xb1), (.long xb2), (.long xb3), (.long xb4)] [(.long (72057594037927904 : Int64)), (.long (35184372088831 : Int64)), (.long (0 : Int64)), (.long (536870912 : Int64)), (.long (137438953440 : Int64))] xa1 xb1 (35184372088831 : Int64) T167.heap n0 Z172 Vr f169 f170 f171 (by decide) (by decide) rfl rfl rfl rfl (fun h4 h3 => own_bd ka0 kb0 bxa1 bxb1 (by decide) h4 h3)) (by rw [hml]; rfl) [(.ref ar), (.ref aa), (.ref ab), (.ref ap), (.int ka), (.int kb), (.int (1 : Int32))] [] rfl (lenOf own_pd1 rfl) rfl (Nat.le_of_eq rfl) (by decide) (by decide) (by decide) (by decide) rfl (hb hby at_228) fun T175 v175 Lc175 X175 hQ175 => ?_
  obtain ⟨rfl, Nq175, eh175⟩ := hQ175
  have N175 := Fr.app N173 Nq175
  show Ends p.tables e below (T175.setTop (mkF m 231 #[.val (.int p1), .val (.long q0), .second, .val (.long q1), .second, .val (.long q2), .second, .val (.long q3), .second, .val (.long q4), .second, .val (.long (72057594037927935 : Int64)), .second, .val (.long (8589934591 : Int64)), .second, .val (.int ka), .val (.int kb), .val (.ref aa), .val (.ref ab), .val (.ref ar), .val (.ref ap), .unset, .unset, .unset] [(.int (1 : Int32))])) _
  have hk176 : ¬ ((1 : Int32) = (0 : Int32)) := by decide
  refine s_ifNo (pc' := 234) X175.here hx (hb hby at_231) ((if0 _ _).trans (feq hk176).1) rfl ?_
  refine s_aload (pc' := 236) X175.here hx (hb hby at_234) rfl rfl rfl ?_
  refine s_aload (pc' := 238) X175.here hx (hb hby at_236) rfl rfl rfl ?_
  refine s_aload (pc' := 240) X175.here hx (hb hby at_238) rfl rfl rfl ?_
  refine s_aload (pc' := 242) X175.here hx (hb hby at_240) rfl rfl rfl ?_
  refine s_iload (pc' := 244) X175.here hx (hb hby at_242) rfl rfl ?_
  refine s_iload (pc' := 246) X175.here hx (hb hby at_244) rfl rfl ?_
  refine s_iconst (pc' := 247) X175.here hx (v := (2 : Int32)) (hb hby at_246) rfl rfl ?_
  refine s_callS (pc' := 250) (W := 0) X175 hx hZ  hown (hw _ (List.mem_of_getElem? (i := 13) rfl)) (hw _ (List.mem_of_getElem? (i := 14) rfl)) (hw _ (List.mem_of_getElem? (i := 15) rfl)) (hw _ (List.mem_of_getElem? (i := 16) rfl)) (by decide) eh175 (own_rm2 l Z a0 hw [] ar aa ab ap ka kb (2 : Int32) ka70 ka1 ka32 ka115 [(.long (((ka.toInt64 * xa0) - (kb.toInt64 * xb0)) + (72057594037927904 : Int64))), (.long (((ka.toInt64 * xa1) - (kb.toInt64 * xb1)) + (35184372088831 : Int64))), (.long (((ka.toInt64 * xa2) - (kb.toInt64 * xb2)) + (0 : Int64))), (.long (((ka.toInt64 * xa3) - (kb.toInt64 * xb3)) + (536870912 : Int64))), (.long (((ka.toInt64 * xa4) - (kb.toInt64 * xb4)) + (137438953440 : Int64)))] [(.long xa0), (.long xa1), (.long xa2), (.long xa3), (.long xa4)] [(.long xb0), (.long xb1), (.long xb2), (.long xb3), (.long xb4)] [(.long (72057594037927904 : Int64)), (.long (35184372088831 : Int64)), (.long (0 : Int64)), (.long (536870912 : Int64)), (.long (137438953440 : Int64))] xa2 xb2 (0 : Int64) T167.heap n0 Z172 Vr f169 f170 f171 (by decide) (by decide) rfl rfl rfl rfl (fun h4 h3 => own_bd ka0 kb0 bxa2 bxb2 (by decide) h4 h3)) (by rw [hml]; rfl) [(.ref ar), (.ref aa), (.ref ab), (.ref ap), (.int ka), (.int kb), (.int (2 : Int32))] [] rfl (lenOf own_pd1 rfl) rfl (Nat.le_of_eq rfl) (by decide) (by decide) (by decide) (by decide) rfl (hb hby at_247) fun T177 v177 Lc177 X177 hQ177 => ?_
  obtain ⟨rfl, Nq177, eh177⟩ := hQ177
  have N177 := Fr.app N175 Nq177
  show Ends p.tables e below (T177.setTop (mkF m 250 #[.val (.int p1), .val (.long q0), .second, .val (.long q1), .second, .val (.long q2), .second, .val (.long q3), .second, .val (.long q4), .second, .val (.long (72057594037927935 : Int64)), .second, .val (.long (8589934591 : Int64)), .second, .val (.int ka), .val (.int kb), .val (.ref aa), .val (.ref ab), .val (.ref ar), .val (.ref ap), .unset, .unset, .unset] [(.int (1 : Int32))])) _
  have hk178 : ¬ ((1 : Int32) = (0 : Int32)) := by decide
  refine s_ifNo (pc' := 253) X177.here hx (hb hby at_250) ((if0 _ _).trans (feq hk178).1) rfl ?_
  refine s_aload (pc' := 255) X177.here hx (hb hby at_253) rfl rfl rfl ?_
  refine s_aload (pc' := 257) X177.here hx (hb hby at_255) rfl rfl rfl ?_
  refine s_aload (pc' := 259) X177.here hx (hb hby at_257) rfl rfl rfl ?_
  refine s_aload (pc' := 261) X177.here hx (hb hby at_259) rfl rfl rfl ?_
  refine s_iload (pc' := 263) X177.here hx (hb hby at_261) rfl rfl ?_
  refine s_iload (pc' := 265) X177.here hx (hb hby at_263) rfl rfl ?_
  refine s_iconst (pc' := 266) X177.here hx (v := (3 : Int32)) (hb hby at_265) rfl rfl ?_
  refine s_callS (pc' := 269) (W := 0) X177 hx hZ  hown (hw _ (List.mem_of_getElem? (i := 13) rfl)) (hw _ (List.mem_of_getElem? (i := 14) rfl)) (hw _ (List.mem_of_getElem? (i := 15) rfl)) (hw _ (List.mem_of_getElem? (i := 16) rfl)) (by decide) eh177 (own_rm2 l Z a0 hw [] ar aa ab ap ka kb (3 : Int32) ka70 ka1 ka32 ka115 [(.long (((ka.toInt64 * xa0) - (kb.toInt64 * xb0)) + (72057594037927904 : Int64))), (.long (((ka.toInt64 * xa1) - (kb.toInt64 * xb1)) + (35184372088831 : Int64))), (.long (((ka.toInt64 * xa2) - (kb.toInt64 * xb2)) + (0 : Int64))), (.long (((ka.toInt64 * xa3) - (kb.toInt64 * xb3)) + (536870912 : Int64))), (.long (((ka.toInt64 * xa4) - (kb.toInt64 * xb4)) + (137438953440 : Int64)))] [(.long xa0), (.long xa1), (.long xa2), (.long xa3), (.long xa4)] [(.long xb0), (.long xb1), (.long xb2), (.long xb3), (.long xb4)] [(.long (72057594037927904 : Int64)), (.long (35184372088831 : Int64)), (.long (0 : Int64)), (.long (536870912 : Int64)), (.long (137438953440 : Int64))] xa3 xb3 (536870912 : Int64) T167.heap n0 Z172 Vr f169 f170 f171 (by decide) (by decide) rfl rfl rfl rfl (fun h4 h3 => own_bd ka0 kb0 bxa3 bxb3 (by decide) h4 h3)) (by rw [hml]; rfl) [(.ref ar), (.ref aa), (.ref ab), (.ref ap), (.int ka), (.int kb), (.int (3 : Int32))] [] rfl (lenOf own_pd1 rfl) rfl (Nat.le_of_eq rfl) (by decide) (by decide) (by decide) (by decide) rfl (hb hby at_266) fun T179 v179 Lc179 X179 hQ179 => ?_
  obtain ⟨rfl, Nq179, eh179⟩ := hQ179
  have N179 := Fr.app N177 Nq179
  show Ends p.tables e below (T179.setTop (mkF m 269 #[.val (.int p1), .val (.long q0), .second, .val (.long q1), .second, .val (.long q2), .second, .val (.long q3), .second, .val (.long q4), .second, .val (.long (72057594037927935 : Int64)), .second, .val (.long (8589934591 : Int64)), .second, .val (.int ka), .val (.int kb), .val (.ref aa), .val (.ref ab), .val (.ref ar), .val (.ref ap), .unset, .unset, .unset] [(.int (1 : Int32))])) _
  have hk180 : ¬ ((1 : Int32) = (0 : Int32)) := by decide
  refine s_ifNo (pc' := 272) X179.here hx (hb hby at_269) ((if0 _ _).trans (feq hk180).1) rfl ?_
  refine s_aload (pc' := 274) X179.here hx (hb hby at_272) rfl rfl rfl ?_
  refine s_aload (pc' := 276) X179.here hx (hb hby at_274) rfl rfl rfl ?_
  refine s_aload (pc' := 278) X179.here hx (hb hby at_276) rfl rfl rfl ?_
  refine s_aload (pc' := 280) X179.here hx (hb hby at_278) rfl rfl rfl ?_
  refine s_iload (pc' := 282) X179.here hx (hb hby at_280) rfl rfl ?_
  refine s_iload (pc' := 284) X179.here hx (hb hby at_282) rfl rfl ?_
  refine s_iconst (pc' := 285) X179.here hx (v := (4 : Int32)) (hb hby at_284) rfl rfl ?_
  refine s_callS (pc' := 288) (W := 0) X179 hx hZ  hown (hw _ (List.mem_of_getElem? (i := 13) rfl)) (hw _ (List.mem_of_getElem? (i := 14) rfl)) (hw _ (List.mem_of_getElem? (i := 15) rfl)) (hw _ (List.mem_of_getElem? (i := 16) rfl)) (by decide) eh179 (own_rm2 l Z a0 hw [] ar aa ab ap ka kb (4 : Int32) ka70 ka1 ka32 ka115 [(.long (((ka.toInt64 * xa0) - (kb.toInt64 * xb0)) + (72057594037927904 : Int64))), (.long (((ka.toInt64 * xa1) - (kb.toInt64 * xb1)) + (35184372088831 : Int64))), (.long (((ka.toInt64 * xa2) - (kb.toInt64 * xb2)) + (0 : Int64))), (.long (((ka.toInt64 * xa3) - (kb.toInt64 * xb3)) + (536870912 : Int64))), (.long (((ka.toInt64 * xa4) - (kb.toInt64 * xb4)) + (137438953440 : Int64)))] [(.long xa0), (.long xa1), (.long xa2), (.long xa3), (.long xa4)] [(.long xb0), (.long xb1), (.long xb2), (.long xb3), (.long xb4)] [(.long (72057594037927904 : Int64)), (.long (35184372088831 : Int64)), (.long (0 : Int64)), (.long (536870912 : Int64)), (.long (137438953440 : Int64))] xa4 xb4 (137438953440 : Int64) T167.heap n0 Z172 Vr f169 f170 f171 (by decide) (by decide) rfl rfl rfl rfl (fun h4 h3 => own_bd ka0 kb0 bxa4 bxb4 (by decide) h4 h3)) (by rw [hml]; rfl) [(.ref ar), (.ref aa), (.ref ab), (.ref ap), (.int ka), (.int kb), (.int (4 : Int32))] [] rfl (lenOf own_pd1 rfl) rfl (Nat.le_of_eq rfl) (by decide) (by decide) (by decide) (by decide) rfl (hb hby at_285) fun T181 v181 Lc181 X181 hQ181 => ?_
  obtain ⟨rfl, Nq181, eh181⟩ := hQ181
  have N181 := Fr.app N179 Nq181
  show Ends p.tables e below (T181.setTop (mkF m 288 #[.val (.int p1), .val (.long q0), .second, .val (.long q1), .second, .val (.long q2), .second, .val (.long q3), .second, .val (.long q4), .second, .val (.long (72057594037927935 : Int64)), .second, .val (.long (8589934591 : Int64)), .second, .val (.int ka), .val (.int kb), .val (.ref aa), .val (.ref ab), .val (.ref ar), .val (.ref ap), .unset, .unset, .unset] [(.int (1 : Int32))])) _
  have hk182 : ¬ ((1 : Int32) = (0 : Int32)) := by decide
  refine s_ifNo (pc' := 291) X181.here hx (hb hby at_288) ((if0 _ _).trans (feq hk182).1) rfl ?_
  refine s_iconst (pc' := 292) X181.here hx (v := (1 : Int32)) (hb hby at_291) rfl rfl ?_
  refine s_goto (pc' := 296) X181.here hx (hb hby at_292) (by decide) (by decide) ?_
  refine s_istore (pc' := 298) X181.here hx (l' := #[.val (.int p1), .val (.long q0), .second, .val (.long q1), .second, .val (.long q2), .second, .val (.long q3), .second, .val (.long q4), .second, .val (.long (72057594037927935 : Int64)), .second, .val (.long (8589934591 : Int64)), .second, .val (.int ka), .val (.int kb), .val (.ref aa), .val (.ref ab), .val (.ref ar), .val (.ref ap), .val (.int (1 : Int32)), .unset, .unset]) (hb hby at_296) rfl rfl ?_
  refine s_aload (pc' := 300) X181.here hx (hb hby at_298) rfl rfl rfl ?_
  refine s_iconst (pc' := 301) X181.here hx (v := (0 : Int32)) (hb hby at_300) rfl rfl ?_
  refine s_laload (pc' := 302) (v := (.long xa0)) X181 hx hZ eh181 f169 ⟨by decide, by decide⟩ rfl (hb hby at_301) rfl ?_
  refine s_lloadN (pc' := 303) X181.here hx (hb hby at_302) rfl rfl ?_
  refine s_lload (pc' := 305) X181.here hx (hb hby at_303) rfl rfl ?_
  refine s_land (pc' := 306) X181.here hx (hb hby at_305) rfl ?_
  refine s_lcmp (pc' := 307) X181.here hx (hb hby at_306) rfl ?_
  have hk183 : xa0 = (q0 &&& (72057594037927935 : Int64)) := hxa0
  refine s_ifNo (pc' := 310) X181.here hx (hb hby at_307) ((if0 _ _).trans (teq ((lw_eq xa0 (q0 &&& (72057594037927935 : Int64))).mpr hk183)).2) rfl ?_
  refine s_aload (pc' := 312) X181.here hx (hb hby at_310) rfl rfl rfl ?_
  refine s_iconst (pc' := 313) X181.here hx (v := (1 : Int32)) (hb hby at_312) rfl rfl ?_
  refine s_laload (pc' := 314) (v := (.long xa1)) X181 hx hZ eh181 f169 ⟨by decide, by decide⟩ rfl (hb hby at_313) rfl ?_
  refine s_lloadN (pc' := 315) X181.here hx (hb hby at_314) rfl rfl ?_
  refine s_lload (pc' := 317) X181.here hx (hb hby at_315) rfl rfl ?_
  refine s_land (pc' := 318) X181.here hx (hb hby at_317) rfl ?_
  refine s_lcmp (pc' := 319) X181.here hx (hb hby at_318) rfl ?_
  have hk184 : xa1 = (q1 &&& (72057594037927935 : Int64)) := hxa1
  refine s_ifNo (pc' := 322) X181.here hx (hb hby at_319) ((if0 _ _).trans (teq ((lw_eq xa1 (q1 &&& (72057594037927935 : Int64))).mpr hk184)).2) rfl ?_
  refine s_aload (pc' := 324) X181.here hx (hb hby at_322) rfl rfl rfl ?_
  refine s_iconst (pc' := 325) X181.here hx (v := (2 : Int32)) (hb hby at_324) rfl rfl ?_
  refine s_laload (pc' := 326) (v := (.long xa2)) X181 hx hZ eh181 f169 ⟨by decide, by decide⟩ rfl (hb hby at_325) rfl ?_
  refine s_lload (pc' := 328) X181.here hx (hb hby at_326) rfl rfl ?_
  refine s_lload (pc' := 330) X181.here hx (hb hby at_328) rfl rfl ?_
  refine s_land (pc' := 331) X181.here hx (hb hby at_330) rfl ?_
  refine s_lcmp (pc' := 332) X181.here hx (hb hby at_331) rfl ?_
  have hk185 : xa2 = (q2 &&& (72057594037927935 : Int64)) := hxa2
  refine s_ifNo (pc' := 335) X181.here hx (hb hby at_332) ((if0 _ _).trans (teq ((lw_eq xa2 (q2 &&& (72057594037927935 : Int64))).mpr hk185)).2) rfl ?_
  refine s_aload (pc' := 337) X181.here hx (hb hby at_335) rfl rfl rfl ?_
  refine s_iconst (pc' := 338) X181.here hx (v := (3 : Int32)) (hb hby at_337) rfl rfl ?_
  refine s_laload (pc' := 339) (v := (.long xa3)) X181 hx hZ eh181 f169 ⟨by decide, by decide⟩ rfl (hb hby at_338) rfl ?_
  refine s_lload (pc' := 341) X181.here hx (hb hby at_339) rfl rfl ?_
  refine s_lload (pc' := 343) X181.here hx (hb hby at_341) rfl rfl ?_
  refine s_land (pc' := 344) X181.here hx (hb hby at_343) rfl ?_
  refine s_lcmp (pc' := 345) X181.here hx (hb hby at_344) rfl ?_
  have hk186 : xa3 = (q3 &&& (72057594037927935 : Int64)) := hxa3
  refine s_ifNo (pc' := 348) X181.here hx (hb hby at_345) ((if0 _ _).trans (teq ((lw_eq xa3 (q3 &&& (72057594037927935 : Int64))).mpr hk186)).2) rfl ?_
  refine s_aload (pc' := 350) X181.here hx (hb hby at_348) rfl rfl rfl ?_
  refine s_iconst (pc' := 351) X181.here hx (v := (4 : Int32)) (hb hby at_350) rfl rfl ?_
  refine s_laload (pc' := 352) (v := (.long xa4)) X181 hx hZ eh181 f169 ⟨by decide, by decide⟩ rfl (hb hby at_351) rfl ?_
  refine s_lload (pc' := 354) X181.here hx (hb hby at_352) rfl rfl ?_
  refine s_lload (pc' := 356) X181.here hx (hb hby at_354) rfl rfl ?_
  refine s_land (pc' := 357) X181.here hx (hb hby at_356) rfl ?_
  refine s_lcmp (pc' := 358) X181.here hx (hb hby at_357) rfl ?_
  have hk187 : xa4 = (q4 &&& (8589934591 : Int64)) := hxa4
  refine s_ifNo (pc' := 361) X181.here hx (hb hby at_358) ((if0 _ _).trans (teq ((lw_eq xa4 (q4 &&& (8589934591 : Int64))).mpr hk187)).2) rfl ?_
  refine s_iconst (pc' := 362) X181.here hx (v := (1 : Int32)) (hb hby at_361) rfl rfl ?_
  refine s_goto (pc' := 366) X181.here hx (hb hby at_362) (by decide) (by decide) ?_
  refine s_istore (pc' := 368) X181.here hx (l' := #[.val (.int p1), .val (.long q0), .second, .val (.long q1), .second, .val (.long q2), .second, .val (.long q3), .second, .val (.long q4), .second, .val (.long (72057594037927935 : Int64)), .second, .val (.long (8589934591 : Int64)), .second, .val (.int ka), .val (.int kb), .val (.ref aa), .val (.ref ab), .val (.ref ar), .val (.ref ap), .val (.int (1 : Int32)), .val (.int (1 : Int32)), .unset]) (hb hby at_366) rfl rfl ?_
  refine s_aload (pc' := 370) X181.here hx (hb hby at_368) rfl rfl rfl ?_
  refine s_iconst (pc' := 371) X181.here hx (v := (0 : Int32)) (hb hby at_370) rfl rfl ?_
  refine s_laload (pc' := 372) (v := (.long xb0)) X181 hx hZ eh181 f170 ⟨by decide, by decide⟩ rfl (hb hby at_371) rfl ?_
  refine s_lload (pc' := 374) X181.here hx (hb hby at_372) rfl rfl ?_
  refine s_bipush (pc' := 376) X181.here hx (v := (8 : Int32)) (hb hby at_374) rfl rfl ?_
  refine s_lushr (pc' := 377) X181.here hx (hb hby at_376) rfl ?_
  refine s_lcmp (pc' := 378) X181.here hx (hb hby at_377) rfl ?_
  have hk188 : xb0 = ((q2.toUInt64 >>> ((8 : Int32) &&& 0x3f).toInt64.toUInt64).toInt64) := hxb0
  refine s_ifNo (pc' := 381) X181.here hx (hb hby at_378) ((if0 _ _).trans (teq ((lw_eq xb0 ((q2.toUInt64 >>> ((8 : Int32) &&& 0x3f).toInt64.toUInt64).toInt64)).mpr hk188)).2) rfl ?_
  refine s_aload (pc' := 383) X181.here hx (hb hby at_381) rfl rfl rfl ?_
  refine s_iconst (pc' := 384) X181.here hx (v := (1 : Int32)) (hb hby at_383) rfl rfl ?_
  refine s_laload (pc' := 385) (v := (.long xb1)) X181 hx hZ eh181 f170 ⟨by decide, by decide⟩ rfl (hb hby at_384) rfl ?_
  refine s_lload (pc' := 387) X181.here hx (hb hby at_385) rfl rfl ?_
  refine s_bipush (pc' := 389) X181.here hx (v := (8 : Int32)) (hb hby at_387) rfl rfl ?_
  refine s_lushr (pc' := 390) X181.here hx (hb hby at_389) rfl ?_
  refine s_lcmp (pc' := 391) X181.here hx (hb hby at_390) rfl ?_
  have hk189 : xb1 = ((q3.toUInt64 >>> ((8 : Int32) &&& 0x3f).toInt64.toUInt64).toInt64) := hxb1
  refine s_ifNo (pc' := 394) X181.here hx (hb hby at_391) ((if0 _ _).trans (teq ((lw_eq xb1 ((q3.toUInt64 >>> ((8 : Int32) &&& 0x3f).toInt64.toUInt64).toInt64)).mpr hk189)).2) rfl ?_
  refine s_aload (pc' := 396) X181.here hx (hb hby at_394) rfl rfl rfl ?_
  refine s_iconst (pc' := 397) X181.here hx (v := (2 : Int32)) (hb hby at_396) rfl rfl ?_
  refine s_laload (pc' := 398) (v := (.long xb2)) X181 hx hZ eh181 f170 ⟨by decide, by decide⟩ rfl (hb hby at_397) rfl ?_
  refine s_lload (pc' := 400) X181.here hx (hb hby at_398) rfl rfl ?_
  refine s_bipush (pc' := 402) X181.here hx (v := (8 : Int32)) (hb hby at_400) rfl rfl ?_
  refine s_lushr (pc' := 403) X181.here hx (hb hby at_402) rfl ?_
  refine s_lcmp (pc' := 404) X181.here hx (hb hby at_403) rfl ?_
  have hk190 : xb2 = ((q4.toUInt64 >>> ((8 : Int32) &&& 0x3f).toInt64.toUInt64).toInt64) := hxb2
  refine s_ifNo (pc' := 407) X181.here hx (hb hby at_404) ((if0 _ _).trans (teq ((lw_eq xb2 ((q4.toUInt64 >>> ((8 : Int32) &&& 0x3f).toInt64.toUInt64).toInt64)).mpr hk190)).2) rfl ?_
  refine s_aload (pc' := 409) X181.here hx (hb hby at_407) rfl rfl rfl ?_
  refine s_iconst (pc' := 410) X181.here hx (v := (3 : Int32)) (hb hby at_409) rfl rfl ?_
  refine s_laload (pc' := 411) (v := (.long xb3)) X181 hx hZ eh181 f170 ⟨by decide, by decide⟩ rfl (hb hby at_410) rfl ?_
  refine s_lloadN (pc' := 412) X181.here hx (hb hby at_411) rfl rfl ?_
  refine s_bipush (pc' := 414) X181.here hx (v := (8 : Int32)) (hb hby at_412) rfl rfl ?_
  refine s_lushr (pc' := 415) X181.here hx (hb hby at_414) rfl ?_
  refine s_lcmp (pc' := 416) X181.here hx (hb hby at_415) rfl ?_
  have hk191 : xb3 = ((q0.toUInt64 >>> ((8 : Int32) &&& 0x3f).toInt64.toUInt64).toInt64) := hxb3
  refine s_ifNo (pc' := 419) X181.here hx (hb hby at_416) ((if0 _ _).trans (teq ((lw_eq xb3 ((q0.toUInt64 >>> ((8 : Int32) &&& 0x3f).toInt64.toUInt64).toInt64)).mpr hk191)).2) rfl ?_
  refine s_aload (pc' := 421) X181.here hx (hb hby at_419) rfl rfl rfl ?_
  refine s_iconst (pc' := 422) X181.here hx (v := (4 : Int32)) (hb hby at_421) rfl rfl ?_
  refine s_laload (pc' := 423) (v := (.long xb4)) X181 hx hZ eh181 f170 ⟨by decide, by decide⟩ rfl (hb hby at_422) rfl ?_
  refine s_lloadN (pc' := 424) X181.here hx (hb hby at_423) rfl rfl ?_
  refine s_bipush (pc' := 426) X181.here hx (v := (8 : Int32)) (hb hby at_424) rfl rfl ?_
  refine s_lushr (pc' := 427) X181.here hx (hb hby at_426) rfl ?_
  refine s_lload (pc' := 429) X181.here hx (hb hby at_427) rfl rfl ?_
  refine s_land (pc' := 430) X181.here hx (hb hby at_429) rfl ?_
  refine s_lcmp (pc' := 431) X181.here hx (hb hby at_430) rfl ?_
  have hk192 : xb4 = (((q1.toUInt64 >>> ((8 : Int32) &&& 0x3f).toInt64.toUInt64).toInt64) &&& (8589934591 : Int64)) := hxb4
  refine s_ifNo (pc' := 434) X181.here hx (hb hby at_431) ((if0 _ _).trans (teq ((lw_eq xb4 (((q1.toUInt64 >>> ((8 : Int32) &&& 0x3f).toInt64.toUInt64).toInt64) &&& (8589934591 : Int64))).mpr hk192)).2) rfl ?_
  refine s_iconst (pc' := 435) X181.here hx (v := (1 : Int32)) (hb hby at_434) rfl rfl ?_
  refine s_goto (pc' := 439) X181.here hx (hb hby at_435) (by decide) (by decide) ?_
  refine s_istore (pc' := 441) X181.here hx (l' := #[.val (.int p1), .val (.long q0), .second, .val (.long q1), .second, .val (.long q2), .second, .val (.long q3), .second, .val (.long q4), .second, .val (.long (72057594037927935 : Int64)), .second, .val (.long (8589934591 : Int64)), .second, .val (.int ka), .val (.int kb), .val (.ref aa), .val (.ref ab), .val (.ref ar), .val (.ref ap), .val (.int (1 : Int32)), .val (.int (1 : Int32)), .val (.int (1 : Int32))]) (hb hby at_439) rfl rfl ?_
  refine s_iload (pc' := 443) X181.here hx (hb hby at_441) rfl rfl ?_
  have hk193 : ¬ ((1 : Int32) = (0 : Int32)) := by decide
  refine s_ifNo (pc' := 446) X181.here hx (hb hby at_443) ((if0 _ _).trans (feq hk193).1) rfl ?_
  refine s_iload (pc' := 448) X181.here hx (hb hby at_446) rfl rfl ?_
  have hk194 : ¬ ((1 : Int32) = (0 : Int32)) := by decide
  refine s_ifNo (pc' := 451) X181.here hx (hb hby at_448) ((if0 _ _).trans (feq hk194).1) rfl ?_
  refine s_iload (pc' := 453) X181.here hx (hb hby at_451) rfl rfl ?_
  have hk195 : ¬ ((1 : Int32) = (0 : Int32)) := by decide
  refine s_ifNo (pc' := 456) X181.here hx (hb hby at_453) ((if0 _ _).trans (feq hk195).1) rfl ?_
  refine s_iconst (pc' := 457) X181.here hx (v := (1 : Int32)) (hb hby at_456) rfl rfl ?_
  refine s_goto (pc' := 461) X181.here hx (hb hby at_457) (by decide) (by decide) ?_
  obtain ⟨fs, hr, hrun, hended, hW, hsame⟩ := X181.leave (v := some (.int (1 : Int32))) (fun h => by rw [Bd.returns] at h; cases h)
  refine ⟨_, _, retN X181 hx (t := .boolean) Bd.returns (by simp) (hb hby at_461) hr, hrun, hended, _, _, rfl, ?_, ⟨_, rfl⟩, hW, hsame.mono (by decide) (by decide)⟩
  show own_rm0_Q Z p1 q0 q1 q2 q3 q4 P kP h0 n0 _ T181.heap _
  rw [eh181]
  exact ⟨rfl, N181⟩
set_option maxRecDepth 65536 in
set_option maxHeartbeats 40000000 in
theorem comes_1 {Post : Tables → Env → Array Value → State → Outcome → State → Prop} (hpost : ∀ tb e args s v u, (limb_1_1.after args s (.returned v) u = true ∧ limb_1_2.after args s (.returned v) u = true ∧ True) → FrameEnd s (.returned v) u (Jvm.fieldLocs frame_1_writes args s ++ Jvm.arrayLocs frame_1_arrays args s ++ Jvm.staticLocs frame_1_statics s) 16 128 → Post tb e args s (.returned v) u) :
    ArmFor flags0 classFile x code maxLocals ret World_1 tables_1 room_1 Calls_1 rest_1 Pre_1 Post := by
  intro l hfl _ _ p e ha hc hk s m args below hf hA hF happ hP
  obtain ⟨hcalls, hrest, hpre⟩ := hP
  obtain ⟨-, -, -, hnamed, -, -, -, hat⟩ := (Spec.applies_iff hf).mp happ
  obtain ⟨hg, hn⟩ := and_e (Cond.before_iff.mp (show (Jvm.Cond.and given_1 narrow_1).before args s = true from hpre))
  obtain ⟨gg2, gg3⟩ := and_e hg
  obtain ⟨gg4, gg5⟩ := and_e gg3
  obtain ⟨gg6, gg7⟩ := and_e gg5
  obtain ⟨gg8, gg9⟩ := and_e gg7
  obtain ⟨gg10, gg11⟩ := and_e gg9
  obtain ⟨gg12, gg13⟩ := and_e gg11
  obtain ⟨w0, w1, w2, w3, w4, w5, rfl⟩ : ∃ w0 w1 w2 w3 w4 w5 : Value, args = #[w0, w1, w2, w3, w4, w5] := by
    have hs : args.size = 6 := by simpa [Cond.value, given_1] using gg2
    obtain ⟨L⟩ := args
    match L, hs with
    | [w0, w1, w2, w3, w4, w5], _ => exact ⟨w0, w1, w2, w3, w4, w5, rfl⟩
  have hw := fun d (hd : d ∈ tables_1) => atoms_spec (ws := Jvm.Cond.code x code maxLocals ret :: tables_1) hat d (List.mem_cons_of_mem _ hd)
  have hfit : Fit s := fun {y c} hc i hi => by
    obtain ⟨ha, rfl⟩ := Array.getElem?_eq_some_iff.mp hc
    have q := List.all_eq_true.mp ((Array.all_eq_true_iff_forall_mem.mp hF) _ (Array.getElem_mem ha)) i (List.mem_range.mpr hi)
    simpa [Array.getElem?_eq_getElem hi] using q
  obtain ⟨i0, ei0⟩ := is_v gg4
  obtain rfl : w0 = (.int i0) := Option.some.inj ei0
  obtain ⟨i1, ei1⟩ := isL_v gg6
  obtain rfl : w1 = (.long i1) := Option.some.inj ei1
  obtain ⟨i2, ei2⟩ := isL_v gg8
  obtain rfl : w2 = (.long i2) := Option.some.inj ei2
  obtain ⟨i3, ei3⟩ := isL_v gg10
  obtain rfl : w3 = (.long i3) := Option.some.inj ei3
  obtain ⟨i4, ei4⟩ := isL_v gg12
  obtain rfl : w4 = (.long i4) := Option.some.inj ei4
  obtain ⟨i5, ei5⟩ := isL_v gg13
  obtain rfl : w5 = (.long i5) := Option.some.inj ei5
  obtain ⟨uu2, uu3⟩ := and_e hn
  obtain ⟨uu4, uu5⟩ := and_e uu3
  obtain ⟨uu6, uu7⟩ := and_e uu5
  obtain ⟨uu8, uu9⟩ := and_e uu7
  obtain ⟨uu10, uu11⟩ := and_e uu9
  obtain ⟨uu12, uu13⟩ := and_e uu11
  obtain ⟨P, evP⟩ := arr_v uu2
  obtain ⟨clP, ArP⟩ := Arr.start evP uu2
  have atP := IntBox.arrayAt_of ArP.1 ArP.2.1 ArP.2.2
  have lnP := own_lenL evP atP uu4
  have VP : Arv s s.heap P clP.cls .long (5 : Int32) [(.long (72057594037927904 : Int64)), (.long (35184372088831 : Int64)), (.long (0 : Int64)), (.long (536870912 : Int64)), (.long (137438953440 : Int64))] (.long (0 : Int64)) := Arv.start hfit ArP lnP.1 lnP.2 (by decide) rfl ⟨own_elemL evP ArP.1 uu6, own_elemL evP ArP.1 uu8, own_elemL evP ArP.1 uu10, own_elemL evP ArP.1 uu12, own_elemL evP ArP.1 uu13, trivial⟩
  have SP := Sta.start evP (Or.inr ⟨(hw _ (List.mem_of_getElem? (i := 9) rfl)), (hw _ (List.mem_of_getElem? (i := 12) rfl))⟩)
  obtain ⟨n, o, h1, h2, h3, _, L, rfl, ⟨rfl, N⟩, hq⟩ := own_rm0 l s _ hw tables_1 i0 i1 i2 i3 i4 i5 P clP.cls s.heap s.heap.size (Nat.le_refl _) VP SP p e ha hc hk s m _ below hf ((Spec.applies_iff_loose hf).mp happ).1 ⟨rfl, State.Warmed39.refl s, rfl⟩ trivial
  refine ⟨n, _, h1, h2, h3, hpost _ _ _ _ _ _ ⟨Cond.after_iff.mpr rfl, Cond.after_iff.mpr (eq_i res_at (Term.int_eval (1)) rfl), trivial⟩ ⟨hq.1, hq.2.1, (hq.2.2.sift fun y hy => Or.inr (N y hy)).mono (by decide) (by decide)⟩⟩
theorem main_1_1 : Claimed_1_1 := comes_1 fun _ _ _ _ _ _ h hF => ⟨h.1, hF⟩
theorem main_1_2 : Claimed_1_2 := comes_1 fun _ _ _ _ _ _ h hF => ⟨h.2.1, hF⟩
end Jvm.Pilot.@@N@@
namespace Jvm.Pilot.@@N@@
open Jvm Jvm.ClassFile Sem Op Lib Jvm.Free Jvm.Stand Jvm.Pilot.@@N@@.Jvm.D
/-! MADE BY PROGRAM (witnessworld.py) out of the Statement's table words and the real class files: 11 classes; the members and pool entries that the words name. The judged class is class 1, her method 2. -/
namespace start1
open Jvm.ClassFile
def u (s : String) : CpInfo := .utf8 (stringToUtf16 s)
/-- a pool by its gaps: so many unusable entries, then the entry; so many at the end -/
def gap : Nat → List CpInfo → List CpInfo
  | 0, r => r
  | n + 1, r => .unusable :: gap n r
def poolList (es : List (Nat × CpInfo)) (last : Nat) : List CpInfo := es.foldr (fun e r => gap e.1 (e.2 :: r)) (gap last [])
def pool (es : List (Nat × CpInfo)) (last : Nat) : Array CpInfo := ⟨poolList es last⟩
def fileOf (pool : Array CpInfo) (this : Nat) (attrs : Array Attribute := #[]) (ms : Array MethodInfo := #[]) (fl : Nat := 33) (sup : Nat := 0) (ifs : Array Nat := #[]) (fds : Array FieldInfo := #[]) : ClassFile where
  minorVersion := 0
  majorVersion := 65
  constantPool := pool
  accessFlags := fl
  thisClass := this
  superClass := sup
  interfaces := ifs
  fields := fds
  methods := ms
  attributes := attrs
def plain (name : String) (sup : Option ClassId) : Class where
  name := name
  kind := .ordinary
  loader := none
  accessFlags := 33
  super := sup
  interfaces := #[]
  cf := none
  fields := #[]
  methods := #[]
  instanceTypes := #[]
  staticTypes := #[]
  resolved := #[]
  callSites := []
  init := .initialized
  statics := none
  mirror := none

def pool0 : Array CpInfo := pool [(5, u "<init>"), (0, u "()V"), (1, .class_ 10), (1, u "java/lang/Object")] 113

def k0m0 : Method := { name := "<init>", desc := "()V", sig := { parameters := [], returnType := none }, accessFlags := 1, code := none }
/-- java/lang/Object -/
def k0 : Class := { plain "java/lang/Object" none with
  accessFlags := 33
  interfaces := #[]
  cf := some (fileOf pool0 8 #[] #[{ accessFlags := 1, nameIndex := 5, descriptorIndex := 6, attributes := #[] }] 33 0 #[] #[])
  fields := #[]
  methods := #[k0m0]
  instanceTypes := #[]
  staticTypes := #[]
  resolved := Array.replicate 124 none
  statics := none }

def pool1 : Array CpInfo := pool [(2, .class_ 4), (1, u "java/lang/Object"), (0, u "<init>"), (0, u "()V"), (0, .long 18158513697557839872), (1, .long 576460752303423488), (1, .long 72057594037927935), (1, .long 8589934591), (1, .long 72057594037927904), (1, .long 35184372088831), (1, .long 536870912), (1, .long 137438953440), (1, .methodref 24 25), (0, .class_ 26), (0, .nameAndType 27 28), (0, u "io/github/keyhold/core/P256Field"), (0, u "factor"), (0, u "([JI[JI[J)V"), (0, .methodref 30 31), (0, .class_ 32), (0, .nameAndType 33 34), (0, u "io/github/keyhold/core/P256FieldFactorPinLaw"), (0, u "limb"), (0, u "([J[J[J[JIII)Z"), (3, u "law"), (0, u "(IJJJJJ)Z")] 4

def k1m0 : Method := { name := "<init>", desc := "()V", sig := { parameters := [], returnType := none }, accessFlags := 2, code := none }
def k1c1 : Code := { maxStack := 6, maxLocals := 9, code := method_2_code, exceptionTable := #[], attributes := #[] }
def k1m1 : Method := { name := "limb", desc := "([J[J[J[JIII)Z", sig := { parameters := [(.array .long), (.array .long), (.array .long), (.array .long), .int, .int, .int], returnType := some .boolean }, accessFlags := 10, code := some k1c1 }
def k1c2 : Code := { maxStack := 7, maxLocals := 24, code := code, exceptionTable := #[], attributes := #[] }
def k1m2 : Method := { name := "law", desc := "(IJJJJJ)Z", sig := { parameters := [.int, .long, .long, .long, .long, .long], returnType := some .boolean }, accessFlags := 9, code := some k1c2 }
/-- io/github/keyhold/core/P256FieldFactorPinLaw -/
def k1 : Class := { plain "io/github/keyhold/core/P256FieldFactorPinLaw" (some 0) with
  accessFlags := 49
  interfaces := #[]
  cf := some (fileOf pool1 30 #[] #[{ accessFlags := 2, nameIndex := 5, descriptorIndex := 6, attributes := #[] }, { accessFlags := 10, nameIndex := 33, descriptorIndex := 34, attributes := #[] }, { accessFlags := 9, nameIndex := 38, descriptorIndex := 39, attributes := #[] }] 49 2 #[] #[])
  fields := #[]
  methods := #[k1m0, k1m1, k1m2]
  instanceTypes := #[]
  staticTypes := #[]
  resolved := Array.replicate 44 none
  statics := none }

def pool2 : Array CpInfo := pool [(1, .class_ 2), (0, u "io/github/keyhold/core/P256Field"), (1, .class_ 6), (1, u "java/lang/Object"), (0, u "<init>"), (0, u "()V"), (6, u "R_SQUARED"), (0, u "[J"), (9, u "Ljava/math/BigInteger;"), (14, u "P"), (5, u "ZEROS"), (0, u "[[J"), (13, .fieldref 1 63), (0, .nameAndType 64 16), (0, u "P32"), (6, u "factor"), (0, u "([JI[JI[J)V"), (21, u "ONE"), (6, u "LIMBS"), (0, u "I"), (2, u "BITS"), (1, u "MASK"), (0, u "J")] 17

def k2m0 : Method := { name := "<init>", desc := "()V", sig := { parameters := [], returnType := none }, accessFlags := 2, code := none }
def k2c1 : Code := { maxStack := 8, maxLocals := 5, code := prog_16_method_10_code, exceptionTable := #[], attributes := #[] }
def k2m1 : Method := { name := "factor", desc := "([JI[JI[J)V", sig := { parameters := [(.array .long), .int, (.array .long), .int, (.array .long)], returnType := none }, accessFlags := 8, code := some k2c1 }
/-- io/github/keyhold/core/P256Field -/
def k2 : Class := { plain "io/github/keyhold/core/P256Field" (some 0) with
  accessFlags := 48
  interfaces := #[]
  cf := some (fileOf pool2 1 #[] #[{ accessFlags := 2, nameIndex := 7, descriptorIndex := 8, attributes := #[] }, { accessFlags := 8, nameIndex := 71, descriptorIndex := 72, attributes := #[] }] 48 4 #[] #[{ accessFlags := 24, nameIndex := 41, descriptorIndex := 26, attributes := #[] }, { accessFlags := 24, nameIndex := 101, descriptorIndex := 102, attributes := #[] }, { accessFlags := 26, nameIndex := 105, descriptorIndex := 102, attributes := #[] }, { accessFlags := 26, nameIndex := 107, descriptorIndex := 108, attributes := #[] }, { accessFlags := 26, nameIndex := 64, descriptorIndex := 16, attributes := #[] }, { accessFlags := 26, nameIndex := 47, descriptorIndex := 48, attributes := #[] }, { accessFlags := 26, nameIndex := 15, descriptorIndex := 16, attributes := #[] }, { accessFlags := 24, nameIndex := 94, descriptorIndex := 16, attributes := #[] }])
  fields := #[{ name := "P", type := (.object "java/math/BigInteger"), accessFlags := 24, slot := 0, constantValue := 0 }, { name := "LIMBS", type := .int, accessFlags := 24, slot := 1, constantValue := 0 }, { name := "BITS", type := .int, accessFlags := 26, slot := 2, constantValue := 0 }, { name := "MASK", type := .long, accessFlags := 26, slot := 3, constantValue := 0 }, { name := "P32", type := (.array .long), accessFlags := 26, slot := 4, constantValue := 0 }, { name := "ZEROS", type := (.array (.array .long)), accessFlags := 26, slot := 5, constantValue := 0 }, { name := "R_SQUARED", type := (.array .long), accessFlags := 26, slot := 6, constantValue := 0 }, { name := "ONE", type := (.array .long), accessFlags := 24, slot := 7, constantValue := 0 }]
  methods := #[k2m0, k2m1]
  instanceTypes := #[]
  staticTypes := #[(.object "java/math/BigInteger"), .int, .int, .long, (.array .long), (.array (.array .long)), (.array .long), (.array .long)]
  resolved := Array.replicate 126 none
  statics := some 0 }

def pool3 : Array CpInfo := pool [(1, u "java/lang/Cloneable"), (0, .class_ 1), (0, u "java/lang/Object"), (0, .class_ 3)] 3

/-- java/lang/Cloneable -/
def k3 : Class := { plain "java/lang/Cloneable" (some 0) with
  accessFlags := 1537
  interfaces := #[]
  cf := some (fileOf pool3 2 #[] #[] 1537 4 #[] #[])
  fields := #[]
  methods := #[]
  instanceTypes := #[]
  staticTypes := #[]
  resolved := Array.replicate 8 none
  statics := none }

def pool4 : Array CpInfo := pool [(1, u "java/io/Serializable"), (0, .class_ 1), (0, u "java/lang/Object"), (0, .class_ 3)] 3

/-- java/io/Serializable -/
def k4 : Class := { plain "java/io/Serializable" (some 0) with
  accessFlags := 1537
  interfaces := #[]
  cf := some (fileOf pool4 2 #[] #[] 1537 4 #[] #[])
  fields := #[]
  methods := #[]
  instanceTypes := #[]
  staticTypes := #[]
  resolved := Array.replicate 8 none
  statics := none }

/-- the primitive byte -/
def k5 : Class := { plain "byte" none with kind := .primitive 'B', accessFlags := 0x411 }
/-- [B -/
def k6 : Class := { plain "[B" (some 0) with kind := .array 5 .byte, interfaces := #[3, 4], accessFlags := 1041 }

/-- the primitive int -/
def k7 : Class := { plain "int" none with kind := .primitive 'I', accessFlags := 0x411 }
/-- [I -/
def k8 : Class := { plain "[I" (some 0) with kind := .array 7 .int, interfaces := #[3, 4], accessFlags := 1041 }

/-- the primitive long -/
def k9 : Class := { plain "long" none with kind := .primitive 'J', accessFlags := 0x411 }
/-- [J -/
def k10 : Class := { plain "[J" (some 0) with kind := .array 9 .long, interfaces := #[3, 4], accessFlags := 1041 }

def heap : Heap := #[{ cls := 2, slots := #[.null, .int 0, .int 0, .long 0, .ref 1, .null, .null, .null], vm := .statics 2 },
  { cls := 10, slots := #[.long 72057594037927904, .long 35184372088831, .long 0, .long 536870912, .long 137438953440], vm := .none }]
def classes : Array Class := #[k0, k1, k2, k3, k4, k5, k6, k7, k8, k9, k10]
def interned : List (Array UInt16 × Addr) := []
def slotsUsed : Nat := 13
def theMethod : MethodId := ⟨1, 2⟩
def args0 : Array Value := #[.int 5, .long 0, .long 1, .long 2, .long 3, .long 4]
def aboutOver (below : List Frame) : State where
  vm := { classes := classes, interned := interned.toArray }
  heap := heap
  slotsUsed := slotsUsed
  threads := #[{ frames := .invoking theMethod args0 :: below }]
def below0 : List Frame := [.native { method := ⟨0, 0⟩, args := #[] }]
def about1 : State := aboutOver below0
def p0 : Program := .bare "" "" ""
def e0 : Env := launch0.env 0 0 0
theorem w_frames : about1.frames = Frame.invoking theMethod args0 :: below0 := rfl
set_option maxRecDepth 65536 in
theorem w_args : argsFit about1.vm theMethod args0 = true := by decide +kernel
set_option maxRecDepth 65536 in
theorem w_heap : heapFits about1 = true := by decide +kernel
set_option maxRecDepth 65536 in
theorem w_runnable : about1.curStatus? = some .runnable := by decide +kernel
set_option maxRecDepth 65536 in
theorem w_alone : about1.alone = true := by decide +kernel
set_option maxRecDepth 65536 in
theorem w_named : about1.methodNamed? x = some theMethod := by decide +kernel
set_option maxRecDepth 65536 in
theorem w_hears : about1.hears theMethod below0 = true := by decide +kernel
set_option maxRecDepth 65536 in
theorem w_ripe : about1.ripe theMethod args0 below0 = true := by decide +kernel
theorem w_running : about1.status = .running := rfl
set_option maxRecDepth 65536 in
theorem w_room : about1.hasRoom e0.platform room_1 = true :=
  launch0.hasRoom_least _ room_1 (by decide +kernel) (by decide +kernel) (by decide +kernel) (by decide +kernel) (by decide +kernel) (by decide +kernel)
theorem allAtoms_all (ts : List Jvm.Cond) (a : Array Jvm.Value) (st : Jvm.State) : (allAtoms ts).before a st = ts.all (fun c => c.before a st) := by
  induction ts with
  | nil => rfl
  | cons c t ih =>
    show (Jvm.Cond.and c (allAtoms t)).before a st = _
    rw [Jvm.Cond.before_and, ih, List.all_cons]
def words1 : List Jvm.Cond := Jvm.Cond.code x code maxLocals ret :: tables_1
/-- a 'code' word, met by the world's own term for the bytes: nothing is compared byte by byte -/
theorem code_word {y : MethodName} {bytes : ByteArray} {mx : Nat} {rt : Option FieldType} {a : Array Value} {s : State} {m : MethodId} {meth : Method} {c : Code} (h1 : s.methodNamed? y = some m) (h2 : s.vm.method? m = some meth) (h3 : meth.code = some c) (h4 : c.code = bytes)
    (h5 : (c.maxLocals == mx && c.exceptionTable.isEmpty && decide (c.maxStack ≤ mostOperands) && decide (meth.sig.returnType = rt) && !meth.locks && decide (parseMethodDescriptor y.desc = some meth.sig)) = true) : (Jvm.Cond.code y bytes mx rt).before a s = true := by
  simp only [Bool.and_eq_true, beq_iff_eq, Bool.not_eq_true', decide_eq_true_eq] at h5
  obtain ⟨⟨⟨⟨⟨g1, g2⟩, g3⟩, g4⟩, g5⟩, g6⟩ := h5
  simp [Cond.before, Cond.holds, Cond.value, h1, h2, h3, h4, g1, g2, g3, g4, g5, g6]
def isCode : Jvm.Cond → Bool
  | .code _ _ _ _ => true
  | _ => false
theorem all_split {L : List Jvm.Cond} {P : Jvm.Cond → Bool} (h1 : L.all (fun c => isCode c || P c) = true) (h2 : ∀ c ∈ L.filter isCode, P c = true) : L.all P = true := by
  refine List.all_eq_true.mpr fun c hc => ?_
  have h := List.all_eq_true.mp h1 c hc
  rcases Bool.eq_false_or_eq_true (isCode c) with hi | hi
  · exact h2 c (List.mem_filter.mpr ⟨hc, hi⟩)
  · simpa [hi] using h
set_option maxRecDepth 65536 in
theorem w_c0 : (Jvm.Cond.code x code maxLocals ret).before args0 about1 = true := code_word (m := ⟨1, 2⟩) (meth := k1m2) (c := k1c2) (by decide +kernel) rfl rfl rfl (by decide +kernel)
set_option maxRecDepth 65536 in
theorem w_c1 : (Jvm.Cond.code ({ cls := "io/github/keyhold/core/P256Field", name := "factor", desc := "([JI[JI[J)V" } : Jvm.MethodName) prog_16_method_10_code (5 : Nat) (Option.none : Option Jvm.ClassFile.FieldType)).before args0 about1 = true := code_word (m := ⟨2, 1⟩) (meth := k2m1) (c := k2c1) (by decide +kernel) rfl rfl rfl (by decide +kernel)
set_option maxRecDepth 65536 in
theorem w_c2 : (Jvm.Cond.code ({ cls := "io/github/keyhold/core/P256FieldFactorPinLaw", name := "limb", desc := "([J[J[J[JIII)Z" } : Jvm.MethodName) method_2_code (9 : Nat) (Option.some Jvm.ClassFile.FieldType.boolean)).before args0 about1 = true := code_word (m := ⟨1, 1⟩) (meth := k1m1) (c := k1c1) (by decide +kernel) rfl rfl rfl (by decide +kernel)
def codes1 : List Jvm.Cond := [Jvm.Cond.code x code maxLocals ret, Jvm.Cond.code ({ cls := "io/github/keyhold/core/P256Field", name := "factor", desc := "([JI[JI[J)V" } : Jvm.MethodName) prog_16_method_10_code (5 : Nat) (Option.none : Option Jvm.ClassFile.FieldType), Jvm.Cond.code ({ cls := "io/github/keyhold/core/P256FieldFactorPinLaw", name := "limb", desc := "([J[J[J[JIII)Z" } : Jvm.MethodName) method_2_code (9 : Nat) (Option.some Jvm.ClassFile.FieldType.boolean)]
set_option maxRecDepth 65536 in
theorem codes_eq : words1.filter isCode = codes1 := rfl
theorem w_codes : ∀ c ∈ words1.filter isCode, c.before args0 about1 = true := by
  rw [codes_eq]
  intro c hc
  simp only [codes1, List.mem_cons, List.not_mem_nil, or_false] at hc
  rcases hc with rfl | rfl | rfl
  · exact w_c0
  · exact w_c1
  · exact w_c2
set_option maxRecDepth 65536 in
theorem w_t1 : words1.all (fun c => isCode c || c.before args0 about1) = true := by decide +kernel
theorem w_tables : (allAtoms (Jvm.Cond.code x code maxLocals ret :: tables_1)).before args0 about1 = true := by
  rw [allAtoms_all]
  show words1.all (fun c => c.before args0 about1) = true
  refine all_split ?_ w_codes
  rw [w_t1]
set_option maxRecDepth 65536 in
theorem w_case : (Jvm.Cond.and given_1 narrow_1).before args0 about1 = true := by decide +kernel
theorem w_applies : (headSpec (Jvm.Cond.code x code maxLocals ret :: tables_1) room_1).applies x e0.platform about1 = true :=
  (Spec.applies_iff w_frames).mpr ⟨w_running, w_runnable, w_alone, w_named, w_hears, w_ripe, w_room, w_tables⟩
theorem atStart : AtStart classFile x code maxLocals ret World_1 tables_1 room_1 Calls_1 rest_1 Pre_1 launch0 p0 e0 about1 theMethod args0 below0 :=
  ⟨lists_1, trivial, launch0.admits_env _ _ _, launch0.least_env, fairChoices_fair.cas, fairChoices_fair.clock, w_frames, w_args, w_heap, w_applies, trivial, trivial, w_case⟩
end start1
theorem witness_1 : WitnessClaimed_1 := ⟨start1.p0, start1.e0, start1.about1, start1.theMethod, start1.args0, start1.below0, start1.atStart⟩
end Jvm.Pilot.@@N@@
