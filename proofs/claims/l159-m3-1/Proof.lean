import JvmDerived
import JvmDerived.Pilot.@@N@@Statement
import JvmDerived.Pilot.@@N@@Code
set_option linter.unusedVariables false
set_option linter.unusedSimpArgs false
namespace Jvm.OwnK
open Sem ClassFile Op Lib Jvm.Stand Jvm.Free Jvm.LawKit Jvm.RoadKit
/-- from cur the body's run returns; Q holds of what it returns, the heap then, the places written; F of the end -/
def EndG (p : Program) (e : Env) (below : List Frame) (F : Outcome → State → List Loc → Prop) (Q : Option Value → Heap → List Loc → Prop) (cur : State) : Prop :=
  ∃ s₂ o, Steps p.tables e below cur s₂ ∧ s₂.status = .running ∧ Ended s₂ below o ∧ ∃ v L, o = .returned v ∧ Q v s₂.heap L ∧ F o s₂ L
abbrev End (p : Program) (e : Env) (below : List Frame) (s : State) (Q : Option Value → Heap → List Loc → Prop) (cl sl : Nat) (cur : State) : Prop := EndG p e below (fun o t L => FrameEnd s o t L cl sl) Q cur
/-- a body's contract: entered with the arguments 'as' at the heap h (tables warmer than Z's) it returns, and Q holds -/
def Con (l : Launch) (Z : State) (y : MethodName) (bytes : ByteArray) (maxL : Nat) (ret : Option FieldType) (ws : List Cond) (rm : Room) (as : Array Value) (h : Heap) (Q : Option Value → Heap → List Loc → Prop) : Prop :=
  MetFree l y (head1 (Cond.code y bytes maxL ret :: ws) rm) (fun a U => a = as ∧ Z.Warmed39 U.vm ∧ U.heap = h) (fun _ _ _ _ _ => True) (fun _ U o U' => ∃ v L, o = .returned v ∧ Q v U'.heap L ∧ FrameEnd U o U' L rm.cells rm.slots)
theorem retI_eq {a b : Int32} (h : b = a) : (some (Value.int a) : Option Value) = some (.int b) := by rw [h]
theorem retJ_eq {a b : Int64} (h : b = a) : (some (Value.long a) : Option Value) = some (.long b) := by rw [h]
theorem retD_eq {a b : UInt64} (h : b = a) : (some (Value.double a) : Option Value) = some (.double b) := by rw [h]
section Steps
variable {p : Program} {l : Launch} {e : Env} {R : Room} {s : State} {m : MethodId} {args : Array Value} {below : List Frame} {meth : Method} {c : Code} {T : State} {locs : List Loc} {cells slots : Nat} {Fe : Outcome → State → List Loc → Prop} {Q : Option Value → Heap → List Loc → Prop} {cl sl : Nat} {pc q : Nat} {Ls : Array Slot} {rest : List Value}
theorem EndG.st {cur nxt : State} (k : EndG p e below Fe Q nxt) (st : ∀ t, Steps p.tables e below nxt t → Steps p.tables e below cur t) : EndG p e below Fe Q cur := by
  obtain ⟨s₂, o, h1, r⟩ := k; exact ⟨s₂, o, st _ h1, r⟩
theorem EndG.tr {cur nxt : State} (k : EndG p e below Fe Q nxt) (st : Steps p.tables e below cur nxt) : EndG p e below Fe Q cur := by
  obtain ⟨s₂, o, h1, r⟩ := k; exact ⟨s₂, o, st.trans h1, r⟩
theorem End.cast {g g' : JFrame} (k : EndG p e below Fe Q (T.setTop g')) (h : g = g') : EndG p e below Fe Q (T.setTop g) := h ▸ k
theorem Con.of {Z : State} {y : MethodName} {bytes : ByteArray} {maxL : Nat} {ret : Option FieldType} {ws : List Cond} {rm : Room} {as : Array Value} {h : Heap} (hpl : plainFor y = true)
    (body : ∀ (p : Program) (e : Env) (s : State) (m : MethodId) (below : List Frame) (meth : Method) (c : Code) (s₁ : State), Stand p l e rm s m as below meth c s₁ [] 0 0 → p.tables.exec = Jvm.exec → c.code = bytes → c.maxLocals = maxL → s.vm.findClass y.cls = some m.cls → meth.name = y.name → meth.sig.returnType = ret → meth.locks = false → Z.Warmed39 s.vm → s₁.heap = h → End p e below s Q rm.cells rm.slots (s₁.setTop (entryFrame m as maxL))) :
    Con l Z y bytes maxL ret ws rm as h Q := by
  refine MetFree.of_bodySF hpl hisR ?_
  intro p e s m args below meth c s₁ Bd hml hP hK
  obtain ⟨rfl, hZ, hh⟩ := hP
  obtain ⟨s₂, o, h1, h2, h3, v, L, h4, h5, h6⟩ := body p e s m below meth c s₁ (Stand.of_body Bd) Bd.exec Bd.bytes hml (findClass_of_methodNamed Bd.named) (name_of_methodNamed Bd.named Bd.method).1 Bd.returns Bd.notSynchronized hZ (by rw [← hh, Bd.state]; rfl)
  exact ⟨s₂, o, h1, h2, h3, v, L, h4, h5, h6⟩
theorem Con.mono {Z : State} {y : MethodName} {bytes : ByteArray} {maxL : Nat} {ret : Option FieldType} {ws : List Cond} {rm : Room} {as : Array Value} {h : Heap} {Q' : Option Value → Heap → List Loc → Prop} (k : Con l Z y bytes maxL ret ws rm as h Q) (hQ : ∀ v hh L, Q v hh L → Q' v hh L) : Con l Z y bytes maxL ret ws rm as h Q' := by
  intro p e ha hc hk s m args below hf happ hP hK
  obtain ⟨n, o, h1, h2, h3, v, L, h4, h5, h6⟩ := k p e ha hc hk s m args below hf happ hP hK
  exact ⟨n, o, h1, h2, h3, v, L, h4, hQ _ _ _ h5, h6⟩
theorem k_iloadN (X : Stand p l e R s m args below meth c T locs cells slots) (hx : p.tables.exec = Jvm.exec) {j : Fin 4} {v : Int32} (hq : pc + 1 = q) (hd : decode c.code pc = .ok (.iload_n j, 1)) (hl : Ls[j.val]? = some (.val (.int v))) (k : EndG p e below Fe Q (T.setTop (mkF m q Ls (.int v :: rest)))) : EndG p e below Fe Q (T.setTop (mkF m pc Ls (rest))) := by
  subst hq; exact k.st fun t w => XS.iloadN X.here hx rfl hd hl w
theorem k_iload (X : Stand p l e R s m args below meth c T locs cells slots) (hx : p.tables.exec = Jvm.exec) {j : Nat} {v : Int32} (hq : pc + 2 = q) (hd : decode c.code pc = .ok (.iload j, 2)) (hl : Ls[j]? = some (.val (.int v))) (k : EndG p e below Fe Q (T.setTop (mkF m q Ls (.int v :: rest)))) : EndG p e below Fe Q (T.setTop (mkF m pc Ls (rest))) := by
  subst hq; exact k.st fun t w => XS.iload X.here hx rfl hd hl w
theorem k_istoreN (X : Stand p l e R s m args below meth c T locs cells slots) (hx : p.tables.exec = Jvm.exec) {j : Fin 4} {v : Int32} {L' : Array Slot} (hq : pc + 1 = q) (hd : decode c.code pc = .ok (.istore_n j, 1)) (hl : storeLocals Ls j.val (.int v) = some L') (k : EndG p e below Fe Q (T.setTop (mkF m q L' (rest)))) : EndG p e below Fe Q (T.setTop (mkF m pc Ls (.int v :: rest))) := by
  subst hq; exact k.st fun t w => XS.istoreN X.here hx rfl hd rfl hl w
theorem k_istore (X : Stand p l e R s m args below meth c T locs cells slots) (hx : p.tables.exec = Jvm.exec) {j : Nat} {v : Int32} {L' : Array Slot} (hq : pc + 2 = q) (hd : decode c.code pc = .ok (.istore j, 2)) (hl : storeLocals Ls j (.int v) = some L') (k : EndG p e below Fe Q (T.setTop (mkF m q L' (rest)))) : EndG p e below Fe Q (T.setTop (mkF m pc Ls (.int v :: rest))) := by
  subst hq; exact k.st fun t w => XS.istore X.here hx rfl hd rfl hl w
theorem k_lloadN (X : Stand p l e R s m args below meth c T locs cells slots) (hx : p.tables.exec = Jvm.exec) {j : Fin 4} {v : Int64} (hq : pc + 1 = q) (hd : decode c.code pc = .ok (.lload_n j, 1)) (hl : Ls[j.val]? = some (.val (.long v))) (k : EndG p e below Fe Q (T.setTop (mkF m q Ls (.long v :: rest)))) : EndG p e below Fe Q (T.setTop (mkF m pc Ls (rest))) := by
  subst hq; exact k.st fun t w => XS.lloadN X.here hx rfl hd hl w
theorem k_lload (X : Stand p l e R s m args below meth c T locs cells slots) (hx : p.tables.exec = Jvm.exec) {j : Nat} {v : Int64} (hq : pc + 2 = q) (hd : decode c.code pc = .ok (.lload j, 2)) (hl : Ls[j]? = some (.val (.long v))) (k : EndG p e below Fe Q (T.setTop (mkF m q Ls (.long v :: rest)))) : EndG p e below Fe Q (T.setTop (mkF m pc Ls (rest))) := by
  subst hq; exact k.st fun t w => XS.lload X.here hx rfl hd hl w
theorem k_lstore (X : Stand p l e R s m args below meth c T locs cells slots) (hx : p.tables.exec = Jvm.exec) {j : Nat} {v : Int64} {L' : Array Slot} (hq : pc + 2 = q) (hd : decode c.code pc = .ok (.lstore j, 2)) (hl : storeLocals Ls j (.long v) = some L') (k : EndG p e below Fe Q (T.setTop (mkF m q L' (rest)))) : EndG p e below Fe Q (T.setTop (mkF m pc Ls (.long v :: rest))) := by
  subst hq; exact k.st fun t w => XS.lstore X.here hx rfl hd rfl hl w
theorem k_aloadN (X : Stand p l e R s m args below meth c T locs cells slots) (hx : p.tables.exec = Jvm.exec) {j : Fin 4} {v : Value} (hq : pc + 1 = q) (hd : decode c.code pc = .ok (.aload_n j, 1)) (hl : Ls[j.val]? = some (.val v)) (hv : v.isRef = true) (k : EndG p e below Fe Q (T.setTop (mkF m q Ls (v :: rest)))) : EndG p e below Fe Q (T.setTop (mkF m pc Ls (rest))) := by
  subst hq; exact k.st fun t w => XS.aloadN X.here hx rfl hd hl hv w
theorem k_aload (X : Stand p l e R s m args below meth c T locs cells slots) (hx : p.tables.exec = Jvm.exec) {j : Nat} {v : Value} (hq : pc + 2 = q) (hd : decode c.code pc = .ok (.aload j, 2)) (hl : Ls[j]? = some (.val v)) (hv : v.isRef = true) (k : EndG p e below Fe Q (T.setTop (mkF m q Ls (v :: rest)))) : EndG p e below Fe Q (T.setTop (mkF m pc Ls (rest))) := by
  subst hq; exact k.st fun t w => XS.aload X.here hx rfl hd hl hv w
theorem k_astoreN (X : Stand p l e R s m args below meth c T locs cells slots) (hx : p.tables.exec = Jvm.exec) {j : Fin 4} {v : Value} {L' : Array Slot} (hq : pc + 1 = q) (hd : decode c.code pc = .ok (.astore_n j, 1)) (hv : v.isRef = true) (hl : storeLocals Ls j.val v = some L') (k : EndG p e below Fe Q (T.setTop (mkF m q L' (rest)))) : EndG p e below Fe Q (T.setTop (mkF m pc Ls (v :: rest))) := by
  subst hq; exact k.st fun t w => XS.astoreN X.here hx rfl hd rfl hv hl w
theorem k_astore (X : Stand p l e R s m args below meth c T locs cells slots) (hx : p.tables.exec = Jvm.exec) {j : Nat} {v : Value} {L' : Array Slot} (hq : pc + 2 = q) (hd : decode c.code pc = .ok (.astore j, 2)) (hv : v.isRef = true) (hl : storeLocals Ls j v = some L') (k : EndG p e below Fe Q (T.setTop (mkF m q L' (rest)))) : EndG p e below Fe Q (T.setTop (mkF m pc Ls (v :: rest))) := by
  subst hq; exact k.st fun t w => XS.astore X.here hx rfl hd rfl hv hl w
theorem k_iconst (X : Stand p l e R s m args below meth c T locs cells slots) (hx : p.tables.exec = Jvm.exec) {i : Int} {v : Int32} (hv : Int32.ofInt i = v) (hq : pc + 1 = q) (hd : decode c.code pc = .ok (.iconst i, 1)) (k : EndG p e below Fe Q (T.setTop (mkF m q Ls (.int v :: rest)))) : EndG p e below Fe Q (T.setTop (mkF m pc Ls (rest))) := by
  subst hq hv; exact k.st fun t w => XS.iconst X.here hx rfl hd w
theorem k_bipush (X : Stand p l e R s m args below meth c T locs cells slots) (hx : p.tables.exec = Jvm.exec) {i : Int} {v : Int32} (hv : (Int8.ofInt i).toInt32 = v) (hq : pc + 2 = q) (hd : decode c.code pc = .ok (.bipush i, 2)) (k : EndG p e below Fe Q (T.setTop (mkF m q Ls (.int v :: rest)))) : EndG p e below Fe Q (T.setTop (mkF m pc Ls (rest))) := by
  subst hq hv; exact k.st fun t w => XS.bipush X.here hx rfl hd w
theorem k_sipush (X : Stand p l e R s m args below meth c T locs cells slots) (hx : p.tables.exec = Jvm.exec) {i : Int} {v : Int32} (hv : (Int16.ofInt i).toInt32 = v) (hq : pc + 3 = q) (hd : decode c.code pc = .ok (.sipush i, 3)) (k : EndG p e below Fe Q (T.setTop (mkF m q Ls (.int v :: rest)))) : EndG p e below Fe Q (T.setTop (mkF m pc Ls (rest))) := by
  subst hq hv; exact k.st fun t w => XS.sipush X.here hx rfl hd w
theorem k_lconst (X : Stand p l e R s m args below meth c T locs cells slots) (hx : p.tables.exec = Jvm.exec) {i : Fin 2} {v : Int64} (hv : Int64.ofNat i = v) (hq : pc + 1 = q) (hd : decode c.code pc = .ok (.lconst i, 1)) (k : EndG p e below Fe Q (T.setTop (mkF m q Ls (.long v :: rest)))) : EndG p e below Fe Q (T.setTop (mkF m pc Ls (rest))) := by
  subst hq hv; exact k.st fun t w => XS.lconst X.here hx rfl hd w
theorem k_aconst_null (X : Stand p l e R s m args below meth c T locs cells slots) (hx : p.tables.exec = Jvm.exec) (hq : pc + 1 = q) (hd : decode c.code pc = .ok (.aconst_null, 1)) (k : EndG p e below Fe Q (T.setTop (mkF m q Ls (.null :: rest)))) : EndG p e below Fe Q (T.setTop (mkF m pc Ls (rest))) := by
  subst hq; exact k.st fun t w => XS.aconstNull X.here hx rfl hd w
theorem k_ladd (X : Stand p l e R s m args below meth c T locs cells slots) (hx : p.tables.exec = Jvm.exec) {x y : Int64} (hq : pc + 1 = q) (hd : decode c.code pc = .ok (.ladd, 1)) (k : EndG p e below Fe Q (T.setTop (mkF m q Ls (.long (x + y) :: rest)))) : EndG p e below Fe Q (T.setTop (mkF m pc Ls (.long y :: .long x :: rest))) := by
  subst hq; exact k.st fun t w => XS.ladd X.here hx rfl hd rfl w
theorem k_isub (X : Stand p l e R s m args below meth c T locs cells slots) (hx : p.tables.exec = Jvm.exec) {x y : Int32} (hq : pc + 1 = q) (hd : decode c.code pc = .ok (.isub, 1)) (k : EndG p e below Fe Q (T.setTop (mkF m q Ls (.int (x - y) :: rest)))) : EndG p e below Fe Q (T.setTop (mkF m pc Ls (.int y :: .int x :: rest))) := by
  subst hq; exact k.st fun t w => XS.isub X.here hx rfl hd rfl w
theorem k_lsub (X : Stand p l e R s m args below meth c T locs cells slots) (hx : p.tables.exec = Jvm.exec) {x y : Int64} (hq : pc + 1 = q) (hd : decode c.code pc = .ok (.lsub, 1)) (k : EndG p e below Fe Q (T.setTop (mkF m q Ls (.long (x - y) :: rest)))) : EndG p e below Fe Q (T.setTop (mkF m pc Ls (.long y :: .long x :: rest))) := by
  subst hq; exact k.st fun t w => XS.lsub X.here hx rfl hd rfl w
theorem k_iand (X : Stand p l e R s m args below meth c T locs cells slots) (hx : p.tables.exec = Jvm.exec) {x y : Int32} (hq : pc + 1 = q) (hd : decode c.code pc = .ok (.iand, 1)) (k : EndG p e below Fe Q (T.setTop (mkF m q Ls (.int (x &&& y) :: rest)))) : EndG p e below Fe Q (T.setTop (mkF m pc Ls (.int y :: .int x :: rest))) := by
  subst hq; exact k.st fun t w => XS.iand X.here hx rfl hd rfl w
theorem k_land (X : Stand p l e R s m args below meth c T locs cells slots) (hx : p.tables.exec = Jvm.exec) {x y : Int64} (hq : pc + 1 = q) (hd : decode c.code pc = .ok (.land, 1)) (k : EndG p e below Fe Q (T.setTop (mkF m q Ls (.long (x &&& y) :: rest)))) : EndG p e below Fe Q (T.setTop (mkF m pc Ls (.long y :: .long x :: rest))) := by
  subst hq; exact k.st fun t w => XS.land X.here hx rfl hd rfl w
theorem k_ishl (X : Stand p l e R s m args below meth c T locs cells slots) (hx : p.tables.exec = Jvm.exec) {x y : Int32} (hq : pc + 1 = q) (hd : decode c.code pc = .ok (.ishl, 1)) (k : EndG p e below Fe Q (T.setTop (mkF m q Ls (.int (x <<< (y &&& 31)) :: rest)))) : EndG p e below Fe Q (T.setTop (mkF m pc Ls (.int y :: .int x :: rest))) := by
  subst hq; exact k.st fun t w => XS.ishl X.here hx rfl hd rfl w
theorem k_ishr (X : Stand p l e R s m args below meth c T locs cells slots) (hx : p.tables.exec = Jvm.exec) {x y : Int32} (hq : pc + 1 = q) (hd : decode c.code pc = .ok (.ishr, 1)) (k : EndG p e below Fe Q (T.setTop (mkF m q Ls (.int (x >>> (y &&& 31)) :: rest)))) : EndG p e below Fe Q (T.setTop (mkF m pc Ls (.int y :: .int x :: rest))) := by
  subst hq; exact k.st fun t w => XS.ishr X.here hx rfl hd rfl w
theorem k_iushr (X : Stand p l e R s m args below meth c T locs cells slots) (hx : p.tables.exec = Jvm.exec) {x y : Int32} (hq : pc + 1 = q) (hd : decode c.code pc = .ok (.iushr, 1)) (k : EndG p e below Fe Q (T.setTop (mkF m q Ls (.int ((x.toUInt32 >>> (y &&& 31).toUInt32).toInt32) :: rest)))) : EndG p e below Fe Q (T.setTop (mkF m pc Ls (.int y :: .int x :: rest))) := by
  subst hq; exact k.st fun t w => XS.iushr X.here hx rfl hd rfl w
theorem k_lshl (X : Stand p l e R s m args below meth c T locs cells slots) (hx : p.tables.exec = Jvm.exec) {x : Int64} {y : Int32} (hq : pc + 1 = q) (hd : decode c.code pc = .ok (.lshl, 1)) (k : EndG p e below Fe Q (T.setTop (mkF m q Ls (.long (x <<< (y &&& 0x3f).toInt64) :: rest)))) : EndG p e below Fe Q (T.setTop (mkF m pc Ls (.int y :: .long x :: rest))) := by
  subst hq; exact k.st fun t w => XS.lshl X.here hx rfl hd rfl w
theorem k_lushr (X : Stand p l e R s m args below meth c T locs cells slots) (hx : p.tables.exec = Jvm.exec) {x : Int64} {y : Int32} (hq : pc + 1 = q) (hd : decode c.code pc = .ok (.lushr, 1)) (k : EndG p e below Fe Q (T.setTop (mkF m q Ls (.long ((x.toUInt64 >>> (y &&& 0x3f).toInt64.toUInt64).toInt64) :: rest)))) : EndG p e below Fe Q (T.setTop (mkF m pc Ls (.int y :: .long x :: rest))) := by
  subst hq; exact k.st fun t w => XS.lushr X.here hx rfl hd rfl w
theorem k_i2l (X : Stand p l e R s m args below meth c T locs cells slots) (hx : p.tables.exec = Jvm.exec) {x : Int32} (hq : pc + 1 = q) (hd : decode c.code pc = .ok (.i2l, 1)) (k : EndG p e below Fe Q (T.setTop (mkF m q Ls (.long x.toInt64 :: rest)))) : EndG p e below Fe Q (T.setTop (mkF m pc Ls (.int x :: rest))) := by
  subst hq; exact k.st fun t w => XS.i2l X.here hx rfl hd rfl w
theorem k_l2i (X : Stand p l e R s m args below meth c T locs cells slots) (hx : p.tables.exec = Jvm.exec) {x : Int64} (hq : pc + 1 = q) (hd : decode c.code pc = .ok (.l2i, 1)) (k : EndG p e below Fe Q (T.setTop (mkF m q Ls (.int x.toInt32 :: rest)))) : EndG p e below Fe Q (T.setTop (mkF m pc Ls (.long x :: rest))) := by
  subst hq; exact k.st fun t w => XS.l2i X.here hx rfl hd rfl w
theorem k_i2b (X : Stand p l e R s m args below meth c T locs cells slots) (hx : p.tables.exec = Jvm.exec) {x : Int32} (hq : pc + 1 = q) (hd : decode c.code pc = .ok (.i2b, 1)) (k : EndG p e below Fe Q (T.setTop (mkF m q Ls (.int x.toInt8.toInt32 :: rest)))) : EndG p e below Fe Q (T.setTop (mkF m pc Ls (.int x :: rest))) := by
  subst hq; exact k.st fun t w => XS.i2b X.here hx rfl hd rfl w
theorem k_i2c (X : Stand p l e R s m args below meth c T locs cells slots) (hx : p.tables.exec = Jvm.exec) {x : Int32} (hq : pc + 1 = q) (hd : decode c.code pc = .ok (.i2c, 1)) (k : EndG p e below Fe Q (T.setTop (mkF m q Ls (.int x.toUInt32.toUInt16.toUInt32.toInt32 :: rest)))) : EndG p e below Fe Q (T.setTop (mkF m pc Ls (.int x :: rest))) := by
  subst hq; exact k.st fun t w => XS.i2c X.here hx rfl hd rfl w
theorem k_dup (X : Stand p l e R s m args below meth c T locs cells slots) (hx : p.tables.exec = Jvm.exec) {x : Value} (hq : pc + 1 = q) (hd : decode c.code pc = .ok (.dup, 1)) (hc : x.category = 1) (k : EndG p e below Fe Q (T.setTop (mkF m q Ls (x :: x :: rest)))) : EndG p e below Fe Q (T.setTop (mkF m pc Ls (x :: rest))) := by
  subst hq; exact k.st fun t w => XS.dup X.here hx rfl hd rfl hc w
theorem k_iinc (X : Stand p l e R s m args below meth c T locs cells slots) (hx : p.tables.exec = Jvm.exec) {j : Nat} {i : Int} {x : Int32} {L' : Array Slot} (hq : pc + 3 = q) (hd : decode c.code pc = .ok (.iinc j i, 3)) (hl : Ls[j]? = some (.val (.int x))) (hl' : storeLocals Ls j (.int (x + Int32.ofInt i)) = some L') (k : EndG p e below Fe Q (T.setTop (mkF m q L' (rest)))) : EndG p e below Fe Q (T.setTop (mkF m pc Ls (rest))) := by
  subst hq; exact k.st fun t w => XS.iinc X.here hx rfl hd hl hl' w
theorem k_goto (X : Stand p l e R s m args below meth c T locs cells slots) (hx : p.tables.exec = Jvm.exec) {o : Int} (ho : 0 ≤ (pc : Int) + o) (hp : ((pc : Int) + o).toNat = q) (hd : decode c.code pc = .ok (.goto o, 3)) (k : EndG p e below Fe Q (T.setTop (mkF m q Ls (rest)))) : EndG p e below Fe Q (T.setTop (mkF m pc Ls (rest))) :=
  k.st fun t w => XS.goto X.here hx rfl (pc0 := pc) (pc' := q) rfl hd ho hp w
theorem k_icmp_eq (X : Stand p l e R s m args below meth c T locs cells slots) (hx : p.tables.exec = Jvm.exec) {x y : Int32} {o : Int} {q1 : Nat} (ho : 0 ≤ (pc : Int) + o) (hp : ((pc : Int) + o).toNat = q1) (hq : pc + 3 = q) (hd : decode c.code pc = .ok (.if_icmp .eq o, 3)) (kt : x = y → EndG p e below Fe Q (T.setTop (mkF m q1 Ls (rest)))) (kf : ¬ x = y → EndG p e below Fe Q (T.setTop (mkF m q Ls (rest)))) : EndG p e below Fe Q (T.setTop (mkF m pc Ls (.int y :: .int x :: rest))) := by
  by_cases h : x = y
  · exact (kt h).st fun t w => XS.icmpYes X.here hx rfl (pc0 := pc) (pc' := q1) rfl hd rfl (XT.ii_eq_t h) ho hp w
  · subst hq; exact (kf h).st fun t w => XS.icmpNo X.here hx rfl hd rfl (XT.ii_eq_f h) w
theorem k_if_eq (X : Stand p l e R s m args below meth c T locs cells slots) (hx : p.tables.exec = Jvm.exec) {x : Int32} {o : Int} {q1 : Nat} (ho : 0 ≤ (pc : Int) + o) (hp : ((pc : Int) + o).toNat = q1) (hq : pc + 3 = q) (hd : decode c.code pc = .ok (.ifCond .eq o, 3)) (kt : x = 0 → EndG p e below Fe Q (T.setTop (mkF m q1 Ls (rest)))) (kf : ¬ x = 0 → EndG p e below Fe Q (T.setTop (mkF m q Ls (rest)))) : EndG p e below Fe Q (T.setTop (mkF m pc Ls (.int x :: rest))) := by
  by_cases h : x = 0
  · exact (kt h).st fun t w => XS.ifYes X.here hx rfl (pc0 := pc) (pc' := q1) rfl hd rfl (XT.i0_eq_t h) ho hp w
  · subst hq; exact (kf h).st fun t w => XS.ifNo X.here hx rfl hd rfl (XT.i0_eq_f h) w
theorem k_icmp_ne (X : Stand p l e R s m args below meth c T locs cells slots) (hx : p.tables.exec = Jvm.exec) {x y : Int32} {o : Int} {q1 : Nat} (ho : 0 ≤ (pc : Int) + o) (hp : ((pc : Int) + o).toNat = q1) (hq : pc + 3 = q) (hd : decode c.code pc = .ok (.if_icmp .ne o, 3)) (kt : ¬ x = y → EndG p e below Fe Q (T.setTop (mkF m q1 Ls (rest)))) (kf : x = y → EndG p e below Fe Q (T.setTop (mkF m q Ls (rest)))) : EndG p e below Fe Q (T.setTop (mkF m pc Ls (.int y :: .int x :: rest))) := by
  by_cases h : x = y
  · subst hq; exact (kf h).st fun t w => XS.icmpNo X.here hx rfl hd rfl (XT.ii_ne_f h) w
  · exact (kt h).st fun t w => XS.icmpYes X.here hx rfl (pc0 := pc) (pc' := q1) rfl hd rfl (XT.ii_ne_t h) ho hp w
theorem k_if_ne (X : Stand p l e R s m args below meth c T locs cells slots) (hx : p.tables.exec = Jvm.exec) {x : Int32} {o : Int} {q1 : Nat} (ho : 0 ≤ (pc : Int) + o) (hp : ((pc : Int) + o).toNat = q1) (hq : pc + 3 = q) (hd : decode c.code pc = .ok (.ifCond .ne o, 3)) (kt : ¬ x = 0 → EndG p e below Fe Q (T.setTop (mkF m q1 Ls (rest)))) (kf : x = 0 → EndG p e below Fe Q (T.setTop (mkF m q Ls (rest)))) : EndG p e below Fe Q (T.setTop (mkF m pc Ls (.int x :: rest))) := by
  by_cases h : x = 0
  · subst hq; exact (kf h).st fun t w => XS.ifNo X.here hx rfl hd rfl (XT.i0_ne_f h) w
  · exact (kt h).st fun t w => XS.ifYes X.here hx rfl (pc0 := pc) (pc' := q1) rfl hd rfl (XT.i0_ne_t h) ho hp w
theorem k_lcmp_ne (X : Stand p l e R s m args below meth c T locs cells slots) (hx : p.tables.exec = Jvm.exec) {x y : Int64} {o : Int} {q1 : Nat} (ho : 0 ≤ ((pc + 1 : Nat) : Int) + o) (hp : (((pc + 1 : Nat) : Int) + o).toNat = q1) (hq : pc + 1 + 3 = q) (hd0 : decode c.code pc = .ok (.lcmp, 1)) (hd : decode c.code (pc + 1) = .ok (.ifCond .ne o, 3)) (kt : ¬ x = y → EndG p e below Fe Q (T.setTop (mkF m q1 Ls (rest)))) (kf : x = y → EndG p e below Fe Q (T.setTop (mkF m q Ls (rest)))) : EndG p e below Fe Q (T.setTop (mkF m pc Ls (.long y :: .long x :: rest))) := by
  by_cases h : x = y
  · subst hq; exact (kf h).st fun t w => XT.lcmp X.here hx rfl hd0 rfl <| XS.ifNo X.here hx rfl hd rfl (XT.ll_ne_f h) w
  · exact (kt h).st fun t w => XT.lcmp X.here hx rfl hd0 rfl <| XS.ifYes X.here hx rfl (pc0 := pc + 1) (pc' := q1) rfl hd rfl (XT.ll_ne_t h) ho hp w
theorem k_icmp_ge (X : Stand p l e R s m args below meth c T locs cells slots) (hx : p.tables.exec = Jvm.exec) {x y : Int32} {o : Int} {q1 : Nat} (ho : 0 ≤ (pc : Int) + o) (hp : ((pc : Int) + o).toNat = q1) (hq : pc + 3 = q) (hd : decode c.code pc = .ok (.if_icmp .ge o, 3)) (kt : ¬ x < y → EndG p e below Fe Q (T.setTop (mkF m q1 Ls (rest)))) (kf : x < y → EndG p e below Fe Q (T.setTop (mkF m q Ls (rest)))) : EndG p e below Fe Q (T.setTop (mkF m pc Ls (.int y :: .int x :: rest))) := by
  by_cases h : x < y
  · subst hq; exact (kf h).st fun t w => XS.icmpNo X.here hx rfl hd rfl (XT.ii_ge_f h) w
  · exact (kt h).st fun t w => XS.icmpYes X.here hx rfl (pc0 := pc) (pc' := q1) rfl hd rfl (XT.ii_ge_t h) ho hp w
theorem k_lcmp_ge (X : Stand p l e R s m args below meth c T locs cells slots) (hx : p.tables.exec = Jvm.exec) {x y : Int64} {o : Int} {q1 : Nat} (ho : 0 ≤ ((pc + 1 : Nat) : Int) + o) (hp : (((pc + 1 : Nat) : Int) + o).toNat = q1) (hq : pc + 1 + 3 = q) (hd0 : decode c.code pc = .ok (.lcmp, 1)) (hd : decode c.code (pc + 1) = .ok (.ifCond .ge o, 3)) (kt : ¬ x < y → EndG p e below Fe Q (T.setTop (mkF m q1 Ls (rest)))) (kf : x < y → EndG p e below Fe Q (T.setTop (mkF m q Ls (rest)))) : EndG p e below Fe Q (T.setTop (mkF m pc Ls (.long y :: .long x :: rest))) := by
  by_cases h : x < y
  · subst hq; exact (kf h).st fun t w => XT.lcmp X.here hx rfl hd0 rfl <| XS.ifNo X.here hx rfl hd rfl (XT.ll_ge_f h) w
  · exact (kt h).st fun t w => XT.lcmp X.here hx rfl hd0 rfl <| XS.ifYes X.here hx rfl (pc0 := pc + 1) (pc' := q1) rfl hd rfl (XT.ll_ge_t h) ho hp w
theorem k_icmp_gt (X : Stand p l e R s m args below meth c T locs cells slots) (hx : p.tables.exec = Jvm.exec) {x y : Int32} {o : Int} {q1 : Nat} (ho : 0 ≤ (pc : Int) + o) (hp : ((pc : Int) + o).toNat = q1) (hq : pc + 3 = q) (hd : decode c.code pc = .ok (.if_icmp .gt o, 3)) (kt : y < x → EndG p e below Fe Q (T.setTop (mkF m q1 Ls (rest)))) (kf : ¬ y < x → EndG p e below Fe Q (T.setTop (mkF m q Ls (rest)))) : EndG p e below Fe Q (T.setTop (mkF m pc Ls (.int y :: .int x :: rest))) := by
  by_cases h : y < x
  · exact (kt h).st fun t w => XS.icmpYes X.here hx rfl (pc0 := pc) (pc' := q1) rfl hd rfl (XT.ii_gt_t h) ho hp w
  · subst hq; exact (kf h).st fun t w => XS.icmpNo X.here hx rfl hd rfl (XT.ii_gt_f h) w
theorem k_lcmp_gt (X : Stand p l e R s m args below meth c T locs cells slots) (hx : p.tables.exec = Jvm.exec) {x y : Int64} {o : Int} {q1 : Nat} (ho : 0 ≤ ((pc + 1 : Nat) : Int) + o) (hp : (((pc + 1 : Nat) : Int) + o).toNat = q1) (hq : pc + 1 + 3 = q) (hd0 : decode c.code pc = .ok (.lcmp, 1)) (hd : decode c.code (pc + 1) = .ok (.ifCond .gt o, 3)) (kt : y < x → EndG p e below Fe Q (T.setTop (mkF m q1 Ls (rest)))) (kf : ¬ y < x → EndG p e below Fe Q (T.setTop (mkF m q Ls (rest)))) : EndG p e below Fe Q (T.setTop (mkF m pc Ls (.long y :: .long x :: rest))) := by
  by_cases h : y < x
  · exact (kt h).st fun t w => XT.lcmp X.here hx rfl hd0 rfl <| XS.ifYes X.here hx rfl (pc0 := pc + 1) (pc' := q1) rfl hd rfl (XT.ll_gt_t h) ho hp w
  · subst hq; exact (kf h).st fun t w => XT.lcmp X.here hx rfl hd0 rfl <| XS.ifNo X.here hx rfl hd rfl (XT.ll_gt_f h) w
theorem k_icmp_le (X : Stand p l e R s m args below meth c T locs cells slots) (hx : p.tables.exec = Jvm.exec) {x y : Int32} {o : Int} {q1 : Nat} (ho : 0 ≤ (pc : Int) + o) (hp : ((pc : Int) + o).toNat = q1) (hq : pc + 3 = q) (hd : decode c.code pc = .ok (.if_icmp .le o, 3)) (kt : ¬ y < x → EndG p e below Fe Q (T.setTop (mkF m q1 Ls (rest)))) (kf : y < x → EndG p e below Fe Q (T.setTop (mkF m q Ls (rest)))) : EndG p e below Fe Q (T.setTop (mkF m pc Ls (.int y :: .int x :: rest))) := by
  by_cases h : y < x
  · subst hq; exact (kf h).st fun t w => XS.icmpNo X.here hx rfl hd rfl (XT.ii_le_f h) w
  · exact (kt h).st fun t w => XS.icmpYes X.here hx rfl (pc0 := pc) (pc' := q1) rfl hd rfl (XT.ii_le_t h) ho hp w
theorem k_ifnonnull_y (X : Stand p l e R s m args below meth c T locs cells slots) (hx : p.tables.exec = Jvm.exec) {o : Int} {a : Addr} (ho : 0 ≤ (pc : Int) + o) (hp : ((pc : Int) + o).toNat = q) (hd : decode c.code pc = .ok (.ifnonnull o, 3)) (k : EndG p e below Fe Q (T.setTop (mkF m q Ls (rest)))) : EndG p e below Fe Q (T.setTop (mkF m pc Ls (.ref a :: rest))) :=
  k.st fun t w => XS.ifnonnullYes X.here hx rfl (pc0 := pc) (pc' := q) rfl hd rfl ho hp w
theorem k_ifnonnull_n (X : Stand p l e R s m args below meth c T locs cells slots) (hx : p.tables.exec = Jvm.exec) {o : Int} (hq : pc + 3 = q) (hd : decode c.code pc = .ok (.ifnonnull o, 3)) (k : EndG p e below Fe Q (T.setTop (mkF m q Ls (rest)))) : EndG p e below Fe Q (T.setTop (mkF m pc Ls (.null :: rest))) := by
  subst hq; exact k.st fun t w => XS.ifnonnullNo X.here hx rfl hd rfl w
theorem k_acmp_n (X : Stand p l e R s m args below meth c T locs cells slots) (hx : p.tables.exec = Jvm.exec) {cd : ACond} {o : Int} {x y : Value} (hq : pc + 3 = q) (hd : decode c.code pc = .ok (.if_acmp cd o, 3)) (hx' : x.isRef = true) (hy' : y.isRef = true) (hc : XT.acmp cd x y = false) (k : EndG p e below Fe Q (T.setTop (mkF m q Ls (rest)))) : EndG p e below Fe Q (T.setTop (mkF m pc Ls (y :: x :: rest))) := by
  subst hq; exact k.st fun t w => XT.acmpNo X.here hx rfl hd rfl hx' hy' hc w
theorem k_retN (X : Stand p l e R s m args below meth c T locs cells slots) (hx : p.tables.exec = Jvm.exec) {z : Int32} {t : FieldType} (hlk : meth.locks = false) (hcl : cells ≤ cl) (hsl : slots ≤ sl) (hret : meth.sig.returnType = some t) (ht : t = .boolean ∨ t = .byte ∨ t = .char ∨ t = .short) (hd : decode c.code pc = .ok (.ireturn, 1)) (hQ : Q (some (.int (nar t z))) T.heap locs) : End p e below s Q cl sl (T.setTop (mkF m pc Ls (.int z :: rest))) := by
  obtain ⟨fs, hr, hrun, hended, hW, hsame⟩ := X.leave (v := (some (.int (nar t z)))) (fun h => by rw [hret] at h; cases h) hlk
  refine ⟨_, _, ?_, hrun, hended, _, _, rfl, hQ, ⟨_, rfl⟩, hW, hsame.mono hcl hsl⟩
  exact retN X hx hret ht hd hr
theorem k_retI (X : Stand p l e R s m args below meth c T locs cells slots) (hx : p.tables.exec = Jvm.exec) {z : Int32} (hlk : meth.locks = false) (hcl : cells ≤ cl) (hsl : slots ≤ sl) (hret : meth.sig.returnType = some .int) (hd : decode c.code pc = .ok (.ireturn, 1)) (hQ : Q (some (.int z)) T.heap locs) : End p e below s Q cl sl (T.setTop (mkF m pc Ls (.int z :: rest))) := by
  obtain ⟨fs, hr, hrun, hended, hW, hsame⟩ := X.leave (v := (some (.int z))) (fun h => by rw [hret] at h; cases h) hlk
  refine ⟨_, _, ?_, hrun, hended, _, _, rfl, hQ, ⟨_, rfl⟩, hW, hsame.mono hcl hsl⟩
  exact retOut X hx hret rfl (Or.inl ⟨rfl, Or.inl rfl, _, rfl⟩) hd hr
theorem k_retA (X : Stand p l e R s m args below meth c T locs cells slots) (hx : p.tables.exec = Jvm.exec) {z : Value} {t : FieldType} (hlk : meth.locks = false) (hcl : cells ≤ cl) (hsl : slots ≤ sl) (hret : meth.sig.returnType = some t) (ht : t.isReference = true) (hz : z.isRef = true) (hd : decode c.code pc = .ok (.areturn, 1)) (hQ : Q (some z) T.heap locs) : End p e below s Q cl sl (T.setTop (mkF m pc Ls (z :: rest))) := by
  obtain ⟨fs, hr, hrun, hended, hW, hsame⟩ := X.leave (v := (some z)) (fun h => by rw [hret] at h; cases h) hlk
  refine ⟨_, _, ?_, hrun, hended, _, _, rfl, hQ, ⟨_, rfl⟩, hW, hsame.mono hcl hsl⟩
  exact retOut X hx hret (by cases t <;> first | rfl | (simp [FieldType.isReference] at ht)) (Or.inr (Or.inr (Or.inr (Or.inr ⟨rfl, ht, hz⟩)))) hd hr
theorem k_retV (X : Stand p l e R s m args below meth c T locs cells slots) (hx : p.tables.exec = Jvm.exec)  (hlk : meth.locks = false) (hcl : cells ≤ cl) (hsl : slots ≤ sl) (hret : meth.sig.returnType = none) (hd : decode c.code pc = .ok (.return_, 1)) (hQ : Q none T.heap locs) : End p e below s Q cl sl (T.setTop (mkF m pc Ls ([]))) := by
  obtain ⟨fs, hr, hrun, hended, hW, hsame⟩ := X.leave (v := none) (fun _ => rfl) hlk
  refine ⟨_, _, ?_, hrun, hended, _, _, rfl, hQ, ⟨_, rfl⟩, hW, hsame.mono hcl hsl⟩
  exact X.returnOut hx hret hd hr
variable {Z : State} {a0 : Array Value} {h : Heap}
theorem k_ldcI (X : Stand p l e R s m args below meth c T locs cells slots) (hx : p.tables.exec = Jvm.exec) (hZ : Z.Warmed39 s.vm) {own : String} {index : Nat} {v : Int32} (hown : s.vm.findClass own = some m.cls) (w0 : (Cond.constant own index v).before a0 Z = true) (hq : pc + 2 = q) (hd : decode c.code pc = .ok (.ldc index, 2)) (k : EndG p e below Fe Q (T.setTop (mkF m q Ls (.int v :: rest)))) : EndG p e below Fe Q (T.setTop (mkF m pc Ls (rest))) := by
  subst hq; exact k.st fun t w => X.ldcInt hx hown (mvT hZ w0) (g := (mkF m pc Ls (rest))) rfl hd t w
theorem k_ldc2J (X : Stand p l e R s m args below meth c T locs cells slots) (hx : p.tables.exec = Jvm.exec) (hZ : Z.Warmed39 s.vm) {own : String} {index : Nat} {v : Int64} (hown : s.vm.findClass own = some m.cls) (w0 : (Cond.constantLong own index v).before a0 Z = true) (hq : pc + 3 = q) (hd : decode c.code pc = .ok (.ldc2_w index, 3)) (k : EndG p e below Fe Q (T.setTop (mkF m q Ls (.long v :: rest)))) : EndG p e below Fe Q (T.setTop (mkF m pc Ls (rest))) := by
  subst hq; exact k.st fun t w => X.ldc2Long hx hown (mvT hZ w0) (g := (mkF m pc Ls (rest))) rfl hd t w
theorem k_getF (X : Stand p l e R s m args below meth c T locs cells slots) (hx : p.tables.exec = Jvm.exec) (hZ : Z.Warmed39 s.vm) {own R0 O n d host : String} {index : Nat} (hown : s.vm.findClass own = some m.cls) (w0 : (Cond.fieldLink own index R0 n d).before a0 Z = true ∨ (Cond.fieldLinkNest own index R0 n d host).before a0 Z = true) (via : Via Z R0 O n d) (eT : T.heap = h) {a : Addr} {v : Value} (hq : pc + 3 = q) (hd : decode c.code pc = .ok (.getfield index, 3)) (F : Fld Z h a O n d v) (k : ∀ T', Stand p l e R s m args below meth c T' locs cells slots → T'.heap = h → EndG p e below Fe Q (T'.setTop (mkF m q Ls (v :: rest)))) : EndG p e below Fe Q (T.setTop (mkF m pc Ls (.ref a :: rest))) := by
  subst hq; obtain ⟨T', X', e', st⟩ := getF X hx hZ hown w0 via eT F (g := (mkF m pc Ls (.ref a :: rest))) rfl rfl hd
  exact (k T' X' e').st st
theorem k_getS (X : Stand p l e R s m args below meth c T locs cells slots) (hx : p.tables.exec = Jvm.exec) (hZ : Z.Warmed39 s.vm) {own R0 O n d host : String} {index : Nat} (hown : s.vm.findClass own = some m.cls) (w0 : (Cond.fieldLink own index R0 n d).before a0 Z = true ∨ (Cond.fieldLinkNest own index R0 n d host).before a0 Z = true) (via : Via Z R0 O n d) (eT : T.heap = h) {v : Value} (hq : pc + 3 = q) (hd : decode c.code pc = .ok (.getstatic index, 3)) (F : Sta Z h O n d v) (k : ∀ T', Stand p l e R s m args below meth c T' locs cells slots → T'.heap = h → EndG p e below Fe Q (T'.setTop (mkF m q Ls (v :: rest)))) : EndG p e below Fe Q (T.setTop (mkF m pc Ls (rest))) := by
  subst hq; obtain ⟨T', X', e', st⟩ := getS2 X hx hZ hown w0 via eT F (g := (mkF m pc Ls (rest))) rfl hd
  exact (k T' X' e').st st
theorem k_putF (X : Stand p l e R s m args below meth c T locs cells slots) (hx : p.tables.exec = Jvm.exec) (hZ : Z.Warmed39 s.vm) {own R0 O n d host C : String} {index kk : Nat} {ty : FieldType} (hown : s.vm.findClass own = some m.cls) (w0 : (Cond.fieldLink own index R0 n d).before a0 Z = true ∨ (Cond.fieldLinkNest own index R0 n d host).before a0 Z = true) (via : Via Z R0 O n d) (eT : T.heap = h) {a : Addr} {v old : Value} (L0 : (Cond.lays C O n d).before a0 Z = true ∨ ((Cond.laysFinal C O n d).before a0 Z = true ∧ own = O ∧ meth.name = "<init>")) (wi : (Cond.instantiable C kk).before a0 Z = true) (hty : parseFieldDescriptor d = some ty) (hn : narrow ty v = v) (hf : fits ty v = true) (hq : pc + 3 = q) (hd : decode c.code pc = .ok (.putfield index, 3)) (F : Fld Z h a O n d old) (E : Exa Z h a C) (k : ∀ T' h', Stand p l e R s m args below meth c T' (locs ++ [⟨a, Jvm.RoadKit.slotOf Z O n d⟩]) cells slots → T'.heap = h' → Wr h h' a (Jvm.RoadKit.slotOf Z O n d) v → EndG p e below Fe Q (T'.setTop (mkF m q Ls (rest)))) : EndG p e below Fe Q (T.setTop (mkF m pc Ls (v :: .ref a :: rest))) := by
  subst hq; obtain ⟨T', h', X', e', W', st⟩ := putF X hx hZ hown w0 via eT F E L0 wi hty hn hf (g := (mkF m pc Ls (v :: .ref a :: rest))) rfl rfl hd
  exact (k T' h' X' e' W').st st
theorem k_putFN (X : Stand p l e R s m args below meth c T locs cells slots) (hx : p.tables.exec = Jvm.exec) (hZ : Z.Warmed39 s.vm) {own R0 O n d C : String} {index kk : Nat} {ty : FieldType} (hown : s.vm.findClass own = some m.cls) (w0 : (Cond.fieldLink own index R0 n d).before a0 Z = true) (via : Via Z R0 O n d) (eT : T.heap = h) {a : Addr} {v v' old : Value} (L0 : (Cond.lays C O n d).before a0 Z = true ∨ ((Cond.laysFinal C O n d).before a0 Z = true ∧ own = O ∧ meth.name = "<init>")) (wi : (Cond.instantiable C kk).before a0 Z = true) (hty : parseFieldDescriptor d = some ty) (hn : narrow ty v = v') (hf : fits ty v' = true) (hq : pc + 3 = q) (hd : decode c.code pc = .ok (.putfield index, 3)) (F : Fld Z h a O n d old) (E : Exa Z h a C) (k : ∀ T' h', Stand p l e R s m args below meth c T' (locs ++ [⟨a, Jvm.RoadKit.slotOf Z O n d⟩]) cells slots → T'.heap = h' → Wr h h' a (Jvm.RoadKit.slotOf Z O n d) v' → EndG p e below Fe Q (T'.setTop (mkF m q Ls (rest)))) : EndG p e below Fe Q (T.setTop (mkF m pc Ls (v :: .ref a :: rest))) := by
  subst hq; obtain ⟨T', h', X', e', W', st⟩ := putFN X hx hZ hown w0 via eT F E L0 wi hty hn hf (g := (mkF m pc Ls (v :: .ref a :: rest))) rfl rfl hd
  exact (k T' h' X' e' W').st st
theorem k_new (X : Stand p l e R s m args below meth c T locs cells slots) (hx : p.tables.exec = Jvm.exec) (hZ : Z.Warmed39 s.vm) {own C : String} {index n : Nat} (hown : s.vm.findClass own = some m.cls) (w0 : (Cond.classLink own index C).before a0 Z = true) (wi : (Cond.instantiable C n).before a0 Z = true) (wz : (Cond.initialized C).before a0 Z = true) (eT : T.heap = h) (hq : pc + 3 = q) (hd : decode c.code pc = .ok (.new index, 3)) (hc : cells + 1 ≤ R.cells) (hl : slots + n ≤ R.slots) (k : ∀ T' h' a, Stand p l e R s m args below meth c T' locs (cells + 1) (slots + n) → T'.heap = h' → a = h.size → Ext h h' → Exa Z h' a C → (∀ {O nm d : String} {ty : FieldType}, Laid Z a0 C O nm d → parseFieldDescriptor d = some ty → Fld Z h' a O nm d (defaultValue ty)) → EndG p e below Fe Q (T'.setTop (mkF m q Ls (.ref a :: rest)))) : EndG p e below Fe Q (T.setTop (mkF m pc Ls (rest))) := by
  subst hq; obtain ⟨T', h', X', e', E', A', D', -, st⟩ := newO X hx hZ hown w0 wi wz eT (g := (mkF m pc Ls (rest))) rfl hd hc hl
  exact (k T' h' _ X' e' rfl E' A' D').st st
theorem k_newP (X : Stand p l e R s m args below meth c T locs cells slots) (hx : p.tables.exec = Jvm.exec) (hZ : Z.Warmed39 s.vm) {aty : ArrayType} (w0 : (Cond.arrayClass (newarray.typeOf aty)).before a0 Z = true) (eT : T.heap = h) {n : Int32} (hq : pc + 2 = q) (hd : decode c.code pc = .ok (.newarray aty, 2)) (hn : ¬ n < 0) {cap : Nat} (hcap : n.toNatClampNeg ≤ cap) (hb : cap * 8 ≤ 536870912) (hc : cells + 1 ≤ R.cells) (hl : slots + cap ≤ R.slots) (k : ∀ T' h' a cA, Stand p l e R s m args below meth c T' locs (cells + 1) (slots + cap) → T'.heap = h' → a = h.size → Ext h h' → Arr Z h' a (newA cA (newarray.typeOf aty) n) (newarray.typeOf aty) → EndG p e below Fe Q (T'.setTop (mkF m q Ls (.ref a :: rest)))) : EndG p e below Fe Q (T.setTop (mkF m pc Ls (.int n :: rest))) := by
  subst hq; obtain ⟨T', h', cA, X', e', E', A', st⟩ := newP X hx hZ w0 eT (g := (mkF m pc Ls (.int n :: rest))) rfl hd rfl hn hcap hb hc hl
  exact (k T' h' _ cA X' e' rfl E' A').st st
theorem k_newR (X : Stand p l e R s m args below meth c T locs cells slots) (hx : p.tables.exec = Jvm.exec) (hZ : Z.Warmed39 s.vm) {own C : String} {index : Nat} (hown : s.vm.findClass own = some m.cls) (w1 : (Cond.classLink own index C).before a0 Z = true) (w2 : (Cond.arrayOver (.object C)).before a0 Z = true) (eT : T.heap = h) {n : Int32} (hq : pc + 3 = q) (hd : decode c.code pc = .ok (.anewarray index, 3)) (hn : ¬ n < 0) {cap : Nat} (hcap : n.toNatClampNeg ≤ cap) (hb : cap * 8 ≤ 536870912) (hc : cells + 1 ≤ R.cells) (hl : slots + cap ≤ R.slots) (k : ∀ T' h' a cA, Stand p l e R s m args below meth c T' locs (cells + 1) (slots + cap) → T'.heap = h' → a = h.size → Ext h h' → Arr Z h' a (newA cA (.object C) n) (.object C) → Ovr Z cA C → EndG p e below Fe Q (T'.setTop (mkF m q Ls (.ref a :: rest)))) : EndG p e below Fe Q (T.setTop (mkF m pc Ls (.int n :: rest))) := by
  subst hq; obtain ⟨T', h', cA, X', e', E', A', O', st⟩ := newR X hx hZ hown w1 w2 eT (g := (mkF m pc Ls (.int n :: rest))) rfl hd rfl hn hcap hb hc hl
  exact (k T' h' _ cA X' e' rfl E' A' O').st st
theorem k_initO (X : Stand p l e R s m args below meth c T locs cells slots) (hx : p.tables.exec = Jvm.exec) (hZ : Z.Warmed39 s.vm) {own : String} {index : Nat} (hown : s.vm.findClass own = some m.cls) (w1 : (Cond.methodLink own index Lib.objectInit).before a0 Z = true) (w2 : (Cond.instanceMethod Lib.objectInit).before a0 Z = true) (w3 : (Cond.code Lib.objectInit ⟨#[0xb1]⟩ 1 none).before a0 Z = true) (eT : T.heap = h) {a : Addr} (hq : pc + 3 = q) (hd : decode c.code pc = .ok (.invokespecial index, 3)) (hls : Ls.size = c.maxLocals) (hf : 1 ≤ R.frames) (W : Nat) (hW : 2 * 0 + (rest.map fun v => v.category).sum ≤ W) (hl : W + 12 ≤ R.locals) (k : ∀ T', Stand p l e R s m args below meth c T' locs cells slots → T'.heap = h → EndG p e below Fe Q (T'.setTop (mkF m q Ls (rest)))) : EndG p e below Fe Q (T.setTop (mkF m pc Ls (.ref a :: rest))) := by
  subst hq; obtain ⟨T', X', e', st⟩ := initO X hx hZ hown w1 w2 w3 eT (g := (mkF m pc Ls (.ref a :: rest))) rfl hls rfl hd hf (W := W) hW hl
  exact (k T' X' e').st st
end Steps
/-- the array at a has n places; the place t holds v t -/
def Ary (Z : State) (h : Heap) (a : Addr) (ty : FieldType) (n : Nat) (v : Nat → Value) : Prop := ∃ c : Cell, Arr Z h a c ty ∧ c.slots.size = n ∧ n < 2 ^ 31 ∧ ∀ t, t < n → c.slots[t]? = some (v t)
/-- g, but x at i -/
def upd {α : Type} (g : Nat → α) (i : Nat) (x : α) : Nat → α := fun t => if t = i then x else g t
theorem upd_same {α : Type} (g : Nat → α) (i : Nat) (x : α) : upd g i x i = x := if_pos rfl
theorem upd_other {α : Type} (g : Nat → α) {i t : Nat} (x : α) (q : t ≠ i) : upd g i x t = g t := if_neg q
section Arys
variable {Z : State} {h h' : Heap} {a b : Addr} {ty : FieldType} {n : Nat} {v w : Nat → Value} {sl : Nat} {x : Value} {ws : List Addr}
theorem Ary.lt (F : Ary Z h a ty n v) : a < h.size := by obtain ⟨c, A, -⟩ := F; exact A.lt
theorem Ary.ext (F : Ary Z h a ty n v) (E : Ext h h') : Ary Z h' a ty n v := by obtain ⟨c, A, r⟩ := F; exact ⟨c, A.ext E, r⟩
theorem Ary.other (F : Ary Z h b ty n v) (W : Wr h h' a sl x) (q : b ≠ a) : Ary Z h' b ty n v := by obtain ⟨c, A, r⟩ := F; exact ⟨c, A.other W q, r⟩
theorem Ary.keep (F : Ary Z h a ty n v) (K : Keep h h' ws) (q : a ∉ ws) : Ary Z h' a ty n v := by obtain ⟨c, A, r⟩ := F; exact ⟨c, ⟨K.2.1 a c A.1 q, A.2⟩, r⟩
theorem Ary.same (F : Ary Z h a ty n v) (W : Wr h h' a sl x) : Ary Z h' a ty n (fun t => if t = sl then x else v t) := by
  obtain ⟨c, A, S, B, H⟩ := F
  refine ⟨_, A.same W, by rw [sz_set, S], B, fun t ht => ?_⟩
  by_cases q : t = sl
  · subst q; simp [Cell.setSlot, S, ht]
  · simp only [if_neg q, Cell.setSlot]; rw [Array.getElem?_setIfInBounds_ne (Ne.symm q)]; exact H t ht
theorem Ary.congr (F : Ary Z h a ty n v) (q : ∀ t, t < n → v t = w t) : Ary Z h a ty n w := by obtain ⟨c, A, S, B, H⟩ := F; exact ⟨c, A, S, B, fun t ht => by rw [H t ht, q t ht]⟩
theorem Ary.new {k : ClassId} {z : Int32} (A : Arr Z h a (newA k ty z) ty) (q : ¬ z < 0) (hn : z.toNatClampNeg = n) : Ary Z h a ty n (fun _ => defaultValue ty) := by
  subst hn; exact ⟨_, A, sz_new _ _ _, (back32 q).2, fun t ht => by simp [newA, ht]⟩
theorem Keep.of_ext (E : Ext h h') : Keep h h' [] := (Keep.refl h []).ext E
def Cls (h : Heap) (a : Addr) (k : ClassId) : Prop := ∃ c : Cell, h[a]? = some c ∧ c.cls = k
theorem Cls.lt {k : ClassId} (F : Cls h a k) : a < h.size := by obtain ⟨c, h1, -⟩ := F; exact (Array.getElem?_eq_some_iff.mp h1).1
theorem Cls.keep {k : ClassId} (F : Cls h a k) (K : Keep h h' ws) : Cls h' a k := by obtain ⟨c, h1, h2⟩ := F; obtain ⟨c', q1, q2, -⟩ := K.2.2 _ _ h1; exact ⟨c', q1, q2.trans h2⟩
theorem Sto.ofA {k : ClassId} {C : String} {y : Addr} (A : Ary Z h a ty n v) (q : Cls h a k) (O : Ovr Z k C) (I : Ins Z h y C true) : Sto Z h a (.ref y) := by
  obtain ⟨c, A, r⟩ := A; obtain ⟨c', q1, q2⟩ := q; cases A.1.symm.trans q1; exact Sto.of A (q2 ▸ O) I
end Arys
theorem acmp_eq_t {a b : Addr} (h : a = b) : XT.acmp .eq (.ref a) (.ref b) = true := by subst h; simp [XT.acmp]
theorem acmp_eq_f {a b : Addr} (h : ¬ a = b) : XT.acmp .eq (.ref a) (.ref b) = false := by simp [XT.acmp, h]
theorem acmp_ne_t {a b : Addr} (h : ¬ a = b) : XT.acmp .ne (.ref a) (.ref b) = true := by simp [XT.acmp, h]
theorem acmp_ne_f {a b : Addr} (h : a = b) : XT.acmp .ne (.ref a) (.ref b) = false := by subst h; simp [XT.acmp]
/-- j names the place i -/
def Ix (j : Int32) (i : Nat) : Prop := ¬ j < 0 ∧ j.toNatClampNeg = i
theorem Ix.in {j : Int32} {i n : Nat} {c : Cell} (q : Ix j i) (S : c.slots.size = n) (hi : i < n) : ¬ (j < 0 ∨ c.slots.size ≤ j.toNatClampNeg) := fun o => o.elim q.1 fun o => by rw [S, q.2] at o; omega
theorem Ix.of {j : Int32} {i : Nat} (q : j.toInt = i) : Ix j i := by
  have h0 : ¬ j < 0 := by rw [Int32.lt_iff_toInt_lt, show (0 : Int32).toInt = 0 from by decide]; omega
  refine ⟨h0, ?_⟩
  have := nat_of h0; omega
theorem Ix.int {j : Int32} {i : Nat} (q : Ix j i) : j.toInt = i := by have := nat_of q.1; rw [q.2] at this; exact this
section Steps
variable {p : Program} {l : Launch} {e : Env} {R : Room} {s : State} {m : MethodId} {args : Array Value} {below : List Frame} {meth : Method} {c : Code} {T : State} {locs : List Loc} {cells slots : Nat} {Fe : Outcome → State → List Loc → Prop} {Q : Option Value → Heap → List Loc → Prop} {cl sl : Nat} {pc q : Nat} {Ls : Array Slot} {rest : List Value}
variable {Z : State} {a0 : Array Value} {h : Heap}
theorem k_arJ (X : Stand p l e R s m args below meth c T locs cells slots) (hx : p.tables.exec = Jvm.exec) (hZ : Z.Warmed39 s.vm) (eT : T.heap = h) {a : Addr} {n : Nat} {v : Nat → Value} {j : Int32} {x : Value} (i : Nat) (hq : pc + 1 = q) (hd : decode c.code pc = .ok (.laload, 1)) (A : Ary Z h a .long n v) (hj : Ix j i) (hi : i < n) (hv : v i = x) (k : EndG p e below Fe Q (T.setTop (mkF m q Ls (x :: rest)))) : EndG p e below Fe Q (T.setTop (mkF m pc Ls (.int j :: .ref a :: rest))) := by
  obtain ⟨ce, A, S, B, H⟩ := A
  subst hq hv; exact k.st fun t w => X.laload hx (j := j) (v := v i) (by rw [eT]; exact A.1) (State.isArrayOf_alike hZ.alike A.2.1) A.2.2 (hj.in S hi) (by rw [hj.2]; exact H i hi) (g := (mkF m pc Ls (.int j :: .ref a :: rest))) rfl rfl hd t w
theorem k_arC (X : Stand p l e R s m args below meth c T locs cells slots) (hx : p.tables.exec = Jvm.exec) (hZ : Z.Warmed39 s.vm) (eT : T.heap = h) {a : Addr} {n : Nat} {v : Nat → Value} {j : Int32} {x : Value} (i : Nat) (hq : pc + 1 = q) (hd : decode c.code pc = .ok (.caload, 1)) (A : Ary Z h a .char n v) (hj : Ix j i) (hi : i < n) (hv : v i = x) (k : EndG p e below Fe Q (T.setTop (mkF m q Ls (x :: rest)))) : EndG p e below Fe Q (T.setTop (mkF m pc Ls (.int j :: .ref a :: rest))) := by
  obtain ⟨ce, A, S, B, H⟩ := A
  subst hq hv; exact k.st fun t w => X.caload hx (j := j) (v := v i) (by rw [eT]; exact A.1) (State.isArrayOf_alike hZ.alike A.2.1) A.2.2 (hj.in S hi) (by rw [hj.2]; exact H i hi) (g := (mkF m pc Ls (.int j :: .ref a :: rest))) rfl rfl hd t w
theorem k_arR (X : Stand p l e R s m args below meth c T locs cells slots) (hx : p.tables.exec = Jvm.exec) (hZ : Z.Warmed39 s.vm) (eT : T.heap = h) {a : Addr} {ty : FieldType} {n : Nat} {v : Nat → Value} {j : Int32} {x : Value} (i : Nat) (hq : pc + 1 = q) (hd : decode c.code pc = .ok (.aaload, 1)) (A : Ary Z h a ty n v) (hty : ty.isReference = true) (hj : Ix j i) (hi : i < n) (hv : v i = x) (k : EndG p e below Fe Q (T.setTop (mkF m q Ls (x :: rest)))) : EndG p e below Fe Q (T.setTop (mkF m pc Ls (.int j :: .ref a :: rest))) := by
  obtain ⟨ce, A, S, B, H⟩ := A
  subst hq hv; exact k.st fun t w => X.aaload hx (j := j) (v := v i) (by rw [eT]; exact A.1) (State.isArrayOf_alike hZ.alike A.2.1) hty A.2.2 (hj.in S hi) (by rw [hj.2]; exact H i hi) (g := (mkF m pc Ls (.int j :: .ref a :: rest))) rfl rfl hd t w
theorem k_asJ (X : Stand p l e R s m args below meth c T locs cells slots) (hx : p.tables.exec = Jvm.exec) (hZ : Z.Warmed39 s.vm) (eT : T.heap = h) {a : Addr} {n : Nat} {v : Nat → Value} {j : Int32} {x : Int64} (i : Nat) (hq : pc + 1 = q) (hd : decode c.code pc = .ok (.lastore, 1)) (A : Ary Z h a .long n v) (hj : Ix j i) (hi : i < n) (k : ∀ T' h', Stand p l e R s m args below meth c T' (locs ++ [⟨a, i⟩]) cells slots → T'.heap = h' → Wr h h' a i (.long x) → Ary Z h' a .long n (fun t => if t = i then (.long x) else v t) → EndG p e below Fe Q (T'.setTop (mkF m q Ls (rest)))) : EndG p e below Fe Q (T.setTop (mkF m pc Ls (.long x :: .int j :: .ref a :: rest))) := by
  have A0 := A
  obtain ⟨ce, A, S, B, H⟩ := A
  subst hq; obtain ⟨T', h', X', e', W', st⟩ := stJ X hx hZ eT A (hj.in S hi) (g := (mkF m pc Ls (.long x :: .int j :: .ref a :: rest))) rfl rfl hd
  rw [hj.2] at X' W'
  exact (k T' h' X' e' W' (A0.same W')).st st
theorem k_asB (X : Stand p l e R s m args below meth c T locs cells slots) (hx : p.tables.exec = Jvm.exec) (hZ : Z.Warmed39 s.vm) (eT : T.heap = h) {a : Addr} {n : Nat} {v : Nat → Value} {j : Int32} {x : Int32} (i : Nat) (hq : pc + 1 = q) (hd : decode c.code pc = .ok (.bastore, 1)) (A : Ary Z h a .byte n v) (hj : Ix j i) (hi : i < n) (k : ∀ T' h', Stand p l e R s m args below meth c T' (locs ++ [⟨a, i⟩]) cells slots → T'.heap = h' → Wr h h' a i (.int (nar .byte x)) → Ary Z h' a .byte n (fun t => if t = i then (.int (nar .byte x)) else v t) → EndG p e below Fe Q (T'.setTop (mkF m q Ls (rest)))) : EndG p e below Fe Q (T.setTop (mkF m pc Ls (.int x :: .int j :: .ref a :: rest))) := by
  have A0 := A
  obtain ⟨ce, A, S, B, H⟩ := A
  subst hq; obtain ⟨T', h', X', e', W', st⟩ := stB X hx hZ eT A (hj.in S hi) (g := (mkF m pc Ls (.int x :: .int j :: .ref a :: rest))) rfl rfl hd
  rw [hj.2] at X' W'
  exact (k T' h' X' e' W' (A0.same W')).st st
theorem k_asC (X : Stand p l e R s m args below meth c T locs cells slots) (hx : p.tables.exec = Jvm.exec) (hZ : Z.Warmed39 s.vm) (eT : T.heap = h) {a : Addr} {n : Nat} {v : Nat → Value} {j : Int32} {x : Int32} (i : Nat) (hq : pc + 1 = q) (hd : decode c.code pc = .ok (.castore, 1)) (A : Ary Z h a .char n v) (hj : Ix j i) (hi : i < n) (k : ∀ T' h', Stand p l e R s m args below meth c T' (locs ++ [⟨a, i⟩]) cells slots → T'.heap = h' → Wr h h' a i (.int (nar .char x)) → Ary Z h' a .char n (fun t => if t = i then (.int (nar .char x)) else v t) → EndG p e below Fe Q (T'.setTop (mkF m q Ls (rest)))) : EndG p e below Fe Q (T.setTop (mkF m pc Ls (.int x :: .int j :: .ref a :: rest))) := by
  have A0 := A
  obtain ⟨ce, A, S, B, H⟩ := A
  subst hq; obtain ⟨T', h', X', e', W', st⟩ := stC X hx hZ eT A (hj.in S hi) (g := (mkF m pc Ls (.int x :: .int j :: .ref a :: rest))) rfl rfl hd
  rw [hj.2] at X' W'
  exact (k T' h' X' e' W' (A0.same W')).st st
theorem k_asR (X : Stand p l e R s m args below meth c T locs cells slots) (hx : p.tables.exec = Jvm.exec) (hZ : Z.Warmed39 s.vm) (eT : T.heap = h) {a : Addr} {ty : FieldType} {n : Nat} {v : Nat → Value} {j : Int32} {x : Value} (i : Nat) (hq : pc + 1 = q) (hd : decode c.code pc = .ok (.aastore, 1)) (A : Ary Z h a ty n v) (hj : Ix j i) (hi : i < n) (hty : ty.isReference = true) (F : Sto Z h a x) (k : ∀ T' h', Stand p l e R s m args below meth c T' (locs ++ [⟨a, i⟩]) cells slots → T'.heap = h' → Wr h h' a i x → Ary Z h' a ty n (fun t => if t = i then x else v t) → EndG p e below Fe Q (T'.setTop (mkF m q Ls (rest)))) : EndG p e below Fe Q (T.setTop (mkF m pc Ls (x :: .int j :: .ref a :: rest))) := by
  have A0 := A
  obtain ⟨ce, A, S, B, H⟩ := A
  subst hq; obtain ⟨T', h', X', e', W', st⟩ := stR X hx hZ eT A (hj.in S hi) hty F (g := (mkF m pc Ls (x :: .int j :: .ref a :: rest))) rfl rfl hd
  rw [hj.2] at X' W'
  exact (k T' h' X' e' W' (A0.same W')).st st
theorem k_al (X : Stand p l e R s m args below meth c T locs cells slots) (hx : p.tables.exec = Jvm.exec) (hZ : Z.Warmed39 s.vm) (eT : T.heap = h) {a : Addr} {ty : FieldType} {n : Nat} {v : Nat → Value} {z : Int32} (hq : pc + 1 = q) (hd : decode c.code pc = .ok (.arraylength, 1)) (A : Ary Z h a ty n v) (hz : n.toInt32 = z) (k : EndG p e below Fe Q (T.setTop (mkF m q Ls (.int z :: rest)))) : EndG p e below Fe Q (T.setTop (mkF m pc Ls (.ref a :: rest))) := by
  obtain ⟨ce, A, S, B, H⟩ := A
  subst hq hz; exact k.st fun t w => X.arraylength hx (by rw [eT]; exact A.1) (State.isArrayOf_alike hZ.alike A.2.1) (g := (mkF m pc Ls (.ref a :: rest))) rfl rfl hd t (by rw [S]; exact w)
theorem k_callS (X : Stand p l e R s m args below meth c T locs cells slots) (hx : p.tables.exec = Jvm.exec) (hZ : Z.Warmed39 s.vm) {own : String} {index : Nat} {y : MethodName} {bytes : ByteArray} {maxL : Nat} {ret : Option FieldType} {rm : Room} {as : List Value} {Qc : Option Value → Heap → List Loc → Prop} (hown : s.vm.findClass own = some m.cls) (w1 : (Cond.methodLink own index y).before a0 Z = true) (w2 : (Cond.static y).before a0 Z = true) (w3 : (Cond.initialized y.cls).before a0 Z = true) (w4 : (Cond.code y bytes maxL ret).before a0 Z = true) (hy : y.cls ≠ "java/lang/invoke/MethodHandle" ∧ y.cls ≠ "java/lang/invoke/VarHandle") (W : Nat) (eT : T.heap = h) (hM : Con l Z y bytes maxL ret [] rm (as).toArray h Qc) (hf : rm.frames + 1 ≤ R.frames) (hl : W + (maxL + 11) + rm.locals ≤ R.locals) (hcl : cells + rm.cells ≤ R.cells) (hsl : slots + rm.slots ≤ R.slots) (hls : Ls.size = c.maxLocals) {ps : List FieldType} {rt : Option FieldType} (hpd : parseMethodDescriptor y.desc = some ⟨ps, rt⟩) (hlen : as.length = ps.length) (hW : 2 * 0 + (rest.map fun v => v.category).sum ≤ W) (hq : pc + 3 = q) (hd : decode c.code pc = .ok (.invokestatic index, 3)) (k : ∀ v T' L, Stand p l e R s m args below meth c T' (locs ++ L) (cells + rm.cells) (slots + rm.slots) → Qc v T'.heap L → EndG p e below Fe Q (T'.setTop (mkF m q Ls (v.toList ++ rest)))) : EndG p e below Fe Q (T.setTop (mkF m pc Ls (as.reverse ++ rest))) := by
  subst hq
  obtain ⟨v, _, ⟨T', L', k', n'⟩, -, X', ⟨Lc, hQ, l', y', z'⟩, st⟩ := Jvm.LawKit.callS X hx (y := y) hown (mvT hZ w1) (mvT hZ w2) (mvT hZ w3) (mvT hZ w4) hy (backOf (W := W) hM hZ w4 w3 hf hl) (g := (mkF m pc Ls (as.reverse ++ rest))) rfl hls (argsL := as) (rest := rest) (lenOf hpd hlen) rfl hW hd (fun _ _ => ⟨rfl, eT, hcl, hsl⟩)
  dsimp only [Pt.U, Pt.locs, Pt.cells, Pt.slots] at X' l' y' z' st hQ
  subst l' y' z'
  exact (k v T' Lc X' hQ).st st
theorem k_callI (X : Stand p l e R s m args below meth c T locs cells slots) (hx : p.tables.exec = Jvm.exec) (hZ : Z.Warmed39 s.vm) {own : String} {index : Nat} {y : MethodName} {bytes : ByteArray} {maxL : Nat} {rm : Room} {as : List Value} {Qc : Option Value → Heap → List Loc → Prop} {a : Addr} (hown : s.vm.findClass own = some m.cls) (hy1 : y.name = "<init>") (w1 : (Cond.methodLink own index y).before a0 Z = true) (w2 : (Cond.instanceMethod y).before a0 Z = true) (w3 : (Cond.initialized y.cls).before a0 Z = true) (w4 : (Cond.code y bytes maxL none).before a0 Z = true) (hy : y.cls ≠ "java/lang/invoke/MethodHandle" ∧ y.cls ≠ "java/lang/invoke/VarHandle") (W : Nat) (eT : T.heap = h) (hM : Con l Z y bytes maxL none [] rm (.ref a :: as).toArray h Qc) (hf : rm.frames + 1 ≤ R.frames) (hl : W + (maxL + 11) + rm.locals ≤ R.locals) (hcl : cells + rm.cells ≤ R.cells) (hsl : slots + rm.slots ≤ R.slots) (hls : Ls.size = c.maxLocals) {ps : List FieldType} {rt : Option FieldType} (hpd : parseMethodDescriptor y.desc = some ⟨ps, rt⟩) (hlen : as.length = ps.length) (hW : 2 * 0 + (rest.map fun v => v.category).sum ≤ W) (hq : pc + 3 = q) (hd : decode c.code pc = .ok (.invokespecial index, 3)) (k : ∀ v T' L, Stand p l e R s m args below meth c T' (locs ++ L) (cells + rm.cells) (slots + rm.slots) → Qc v T'.heap L → EndG p e below Fe Q (T'.setTop (mkF m q Ls (v.toList ++ rest)))) : EndG p e below Fe Q (T.setTop (mkF m pc Ls (as.reverse ++ .ref a :: rest))) := by
  subst hq
  obtain ⟨v, _, ⟨T', L', k', n'⟩, -, X', ⟨Lc, hQ, l', y', z'⟩, st⟩ := X.specialBack hx (y := y) hy1 hown (mvT hZ w1) (mvT hZ w2) (mvT hZ w4) hy (backOf (W := W) hM hZ w4 w3 hf hl) (g := (mkF m pc Ls (as.reverse ++ .ref a :: rest))) rfl hls (Steps.refl _) (a := a) (argsL := as) (rest := rest) (lenOf hpd hlen) rfl hW hd (fun _ _ => ⟨rfl, eT, hcl, hsl⟩)
  dsimp only [Pt.U, Pt.locs, Pt.cells, Pt.slots] at X' l' y' z' st hQ
  subst l' y' z'
  exact (k v T' Lc X' hQ).tr st
theorem k_callV (X : Stand p l e R s m args below meth c T locs cells slots) (hx : p.tables.exec = Jvm.exec) (hZ : Z.Warmed39 s.vm) {own : String} {index : Nat} {y : MethodName} {bytes : ByteArray} {maxL : Nat} {ret : Option FieldType} {rm : Room} {as : List Value} {Qc : Option Value → Heap → List Loc → Prop} {a : Addr} {C : String} {z : MethodName} (hown : s.vm.findClass own = some m.cls) (w1 : (Cond.methodLink own index y).before a0 Z = true) (w2 : (Cond.declares y).before a0 Z = true) (hnf : NotFace s y) (w3 : (Cond.selects C y z).before a0 Z = true) (w4 : (Cond.instanceMethod z).before a0 Z = true) (w5 : (Cond.code z bytes maxL ret).before a0 Z = true) (w6 : (Cond.initialized z.cls).before a0 Z = true) (hy : y.cls ≠ "java/lang/invoke/MethodHandle" ∧ y.cls ≠ "java/lang/invoke/VarHandle") (Ex : Exa Z h a C) (W : Nat) (eT : T.heap = h) (hM : Con l Z z bytes maxL ret [] rm (.ref a :: as).toArray h Qc) (hf : rm.frames + 1 ≤ R.frames) (hl : W + (maxL + 11) + rm.locals ≤ R.locals) (hcl : cells + rm.cells ≤ R.cells) (hsl : slots + rm.slots ≤ R.slots) (hls : Ls.size = c.maxLocals) {ps : List FieldType} {rt : Option FieldType} (hpd : parseMethodDescriptor y.desc = some ⟨ps, rt⟩) (hlen : as.length = ps.length) (hW : 2 * 0 + (rest.map fun v => v.category).sum ≤ W) (hq : pc + 3 = q) (hd : decode c.code pc = .ok (.invokevirtual index, 3)) (k : ∀ v T' L, Stand p l e R s m args below meth c T' (locs ++ L) (cells + rm.cells) (slots + rm.slots) → Qc v T'.heap L → EndG p e below Fe Q (T'.setTop (mkF m q Ls (v.toList ++ rest)))) : EndG p e below Fe Q (T.setTop (mkF m pc Ls (as.reverse ++ .ref a :: rest))) := by
  subst hq
  obtain ⟨cB, kB, q1, q2, q3⟩ := isOf hZ eT Ex
  obtain ⟨v, _, ⟨T', L', k', n'⟩, -, X', ⟨Lc, hQ, l', y', z'⟩, st⟩ := X.virtualBack hx (y := y) (z := z) hown (mvT hZ w1) (mvT hZ w2) hnf (mvT hZ w3) (mvT hZ w4) hy (backOf (W := W) hM hZ w5 w6 hf hl) q1 q3 (g := (mkF m pc Ls (as.reverse ++ .ref a :: rest))) rfl hls (Steps.refl _) (argsL := as) (rest := rest) (lenOf hpd hlen) rfl hW hd (fun _ _ => ⟨rfl, eT, hcl, hsl⟩)
  dsimp only [Pt.U, Pt.locs, Pt.cells, Pt.slots] at X' l' y' z' st hQ
  subst l' y' z'
  exact (k v T' Lc X' hQ).tr st
end Steps
end Jvm.OwnK
namespace Jvm.Pilot.@@N@@
open Jvm Jvm.ClassFile Sem Op Lib Jvm.Free Jvm.Stand Jvm.LawKit Jvm.RoadKit Jvm.OwnK Bundle Jvm.Pilot.@@N@@.Jvm.D
theorem pn_0 : plainName "java/lang/StringUTF16" = true := by first | (simp [plainName, overriddenIn]; done) | decide +kernel
theorem pn_1 : plainName "java/lang/String" = true := by first | (simp [plainName, overriddenIn]; done) | decide +kernel
theorem pn_2 : plainName "com/example/bones_of_bytecode/bonesofbytecode/DecodedStringsGetPinLaw" = true := by first | (simp [plainName, overriddenIn]; done) | decide +kernel
theorem pn_3 : plainName "com/example/bones_of_bytecode/bonesofbytecode/DecodedStrings" = true := by first | (simp [plainName, overriddenIn]; done) | decide +kernel
theorem pd_0 : parseMethodDescriptor "([CI[BII)I" = some ⟨[(.array .char), .int, (.array .byte), .int, .int], some .int⟩ := by decide +kernel
theorem pd_1 : parseMethodDescriptor "([CII)[B" = some ⟨[(.array .char), .int, .int], some (.array .byte)⟩ := by decide +kernel
theorem pd_2 : parseMethodDescriptor "([BI)B" = some ⟨[(.array .byte), .int], some .byte⟩ := by decide +kernel
theorem pd_3 : parseMethodDescriptor "([CIILjava/lang/Void;)V" = some ⟨[(.array .char), .int, .int, (.object "java/lang/Void")], none⟩ := by decide +kernel
theorem pd_4 : parseMethodDescriptor "()B" = some ⟨[], some .byte⟩ := by decide +kernel
theorem pd_5 : parseMethodDescriptor "()I" = some ⟨[], some .int⟩ := by decide +kernel
theorem pd_6 : parseMethodDescriptor "(J)I" = some ⟨[.long], some .int⟩ := by decide +kernel
theorem pd_7 : parseMethodDescriptor "([C)V" = some ⟨[(.array .char)], none⟩ := by decide +kernel
theorem pd_8 : parseMethodDescriptor "(J)V" = some ⟨[.long], none⟩ := by decide +kernel
theorem pd_9 : parseMethodDescriptor "(J)Ljava/lang/String;" = some ⟨[.long], some (.object "java/lang/String")⟩ := by decide +kernel
theorem pd_10 : parseMethodDescriptor "(JLjava/lang/String;)V" = some ⟨[.long, (.object "java/lang/String")], none⟩ := by decide +kernel
theorem os6_13_0 {z0 : Value} {z1 : Value} {z2 : Value} {z3 : Value} {z4 : Value} {z5 : Value} {u : Slot} {v : Int32} (h : One u) : storeLocals #[.val z0, .val z1, .val z2, .val z3, .val z4, .val z5, u] 6 (.int v) = some #[.val z0, .val z1, .val z2, .val z3, .val z4, .val z5, .val (.int v)] := by
  rcases h with rfl | ⟨w, rfl, hw⟩
  · rfl
  · cases w <;> first | rfl | (simp [Value.category] at hw)
theorem own_z0 : (0 : Int32).toInt = 0 := by decide
theorem own_nat {k : Nat} (h : k < 2 ^ 31) : Ix k.toInt32 k := Ix.of (len_toInt h)
theorem own_is {j : Int32} {i : Nat} (h : Ix j i) : j = i.toInt32 := Int32.toInt_inj.mp (by
  have e := h.int
  have b := (rng32 j).2
  rw [len_toInt (by omega), e])
theorem own_up {x : Int32} {k : Nat} (q : Ix x k) (hk : k < 2147483000) : Ix (x + 1) (k + 1) := by
  apply Ix.of
  have e := c_iadd x 1
  have b := rng32 (x + 1)
  have i := q.int
  have e1 : (1 : Int32).toInt = 1 := by decide
  rw [e1] at e
  omega
theorem own_lt {j m : Int32} {k n : Nat} (q : Ix j k) (r : Ix m n) : j < m ↔ k < n := by
  have := q.int
  have := r.int
  rw [Int32.lt_iff_toInt_lt]; omega
theorem own_eqi {j m : Int32} {k n : Nat} (q : Ix j k) (r : Ix m n) : j = m ↔ k = n := by
  have := q.int
  have := r.int
  rw [← Int32.toInt_inj]; omega
def own_by (ch : Nat → Int32) (i : Nat) : Nat → Value := fun t => .int (if t < i then nar .byte (ch t).toInt8.toInt32 else 0)
theorem own_by_step (ch : Nat → Int32) (i n : Nat) : ∀ t, t < n → (if t = i then Value.int (nar .byte (ch i).toInt8.toInt32) else own_by ch i t) = own_by ch (i + 1) t := by
  intro t _
  unfold own_by
  by_cases q : t = i
  · subst q; rw [if_pos rfl, if_pos (by omega)]
  · rw [if_neg q]
    by_cases r : t < i
    · rw [if_pos r, if_pos (by omega)]
    · rw [if_neg r, if_neg (by omega)]
theorem d6_0 : decode jdk_52_method_21_code 0 = .ok (.iconst 0, 1) := by decide +kernel
theorem d6_1 : decode jdk_52_method_21_code 1 = .ok (.istore 5, 2) := by decide +kernel
theorem d6_3 : decode jdk_52_method_21_code 3 = .ok (.iload 5, 2) := by decide +kernel
theorem d6_5 : decode jdk_52_method_21_code 5 = .ok (.iload 4, 2) := by decide +kernel
theorem d6_7 : decode jdk_52_method_21_code 7 = .ok (.if_icmp .ge 37, 3) := by decide +kernel
theorem d6_10 : decode jdk_52_method_21_code 10 = .ok (.aload_n 0, 1) := by decide +kernel
theorem d6_11 : decode jdk_52_method_21_code 11 = .ok (.iload_n 1, 1) := by decide +kernel
theorem d6_12 : decode jdk_52_method_21_code 12 = .ok (.caload, 1) := by decide +kernel
theorem d6_13 : decode jdk_52_method_21_code 13 = .ok (.istore 6, 2) := by decide +kernel
theorem d6_15 : decode jdk_52_method_21_code 15 = .ok (.iload 6, 2) := by decide +kernel
theorem d6_17 : decode jdk_52_method_21_code 17 = .ok (.sipush 255, 3) := by decide +kernel
theorem d6_20 : decode jdk_52_method_21_code 20 = .ok (.if_icmp .le 6, 3) := by decide +kernel
theorem d6_26 : decode jdk_52_method_21_code 26 = .ok (.aload_n 2, 1) := by decide +kernel
theorem d6_27 : decode jdk_52_method_21_code 27 = .ok (.iload_n 3, 1) := by decide +kernel
theorem d6_28 : decode jdk_52_method_21_code 28 = .ok (.iload 6, 2) := by decide +kernel
theorem d6_30 : decode jdk_52_method_21_code 30 = .ok (.i2b, 1) := by decide +kernel
theorem d6_31 : decode jdk_52_method_21_code 31 = .ok (.bastore, 1) := by decide +kernel
theorem d6_32 : decode jdk_52_method_21_code 32 = .ok (.iinc 1 1, 3) := by decide +kernel
theorem d6_35 : decode jdk_52_method_21_code 35 = .ok (.iinc 3 1, 3) := by decide +kernel
theorem d6_38 : decode jdk_52_method_21_code 38 = .ok (.iinc 5 1, 3) := by decide +kernel
theorem d6_41 : decode jdk_52_method_21_code 41 = .ok (.goto (-38), 3) := by decide +kernel
theorem d6_44 : decode jdk_52_method_21_code 44 = .ok (.iload 4, 2) := by decide +kernel
theorem d6_46 : decode jdk_52_method_21_code 46 = .ok (.ireturn, 1) := by decide +kernel
theorem ef_6 (m : MethodId) (x0 : Addr) (x1 : Int32) (x2 : Addr) (x3 : Int32) (x4 : Int32) : entryFrame m #[(.ref x0), (.int x1), (.ref x2), (.int x3), (.int x4)] 7 = mkF m 0 #[.val (.ref x0), .val (.int x1), .val (.ref x2), .val (.int x3), .val (.int x4), .unset, .unset] [] := by first | (simp [entryFrame, mkF, argsToLocals, Value.category]; done) | rfl
set_option maxRecDepth 65536 in
set_option maxHeartbeats 40000000 in
theorem rm6 (l : Launch) (Z : State) (a0 : Array Value) (hw : ∀ d ∈ tables_1, d.before a0 Z = true) (x0 : Addr) (x1 : Int32) (x2 : Addr) (x3 : Int32) (x4 : Int32) (h0 : Heap) (n0 : Nat) (n : Nat) (hn1 : 1 ≤ n) (hn : n ≤ 4000) (ch : Nat → Int32) (hch : ∀ t, t < n → ¬ (255 : Int32) < ch t) (hx1 : Ix x1 0) (hx3 : Ix x3 0) (hx4 : Ix x4 n) (ga : n0 ≤ x2) (ne : x0 ≠ x2) (V0 : Ary Z h0 x0 .char n (fun t => .int (ch t))) (V2 : Ary Z h0 x2 .byte n (fun _ => .int (0 : Int32))) :
    Con l Z (⟨"java/lang/StringUTF16", "compress", "([CI[BII)I"⟩ : MethodName) jdk_52_method_21_code 7 (some .int) [] ({ frames := 0, cells := 0, slots := 0, locals := 0 } : Room) #[(.ref x0), (.int x1), (.ref x2), (.int x3), (.int x4)] h0 (fun v h L => v = some (.int x4) ∧ Fr n0 L ∧ Keep h0 h [x2] ∧ Ary Z h x2 .byte n (fun t => .int (nar .byte (ch t).toInt8.toInt32))) := by
  refine Con.of (plainFor_of_name pn_0) ?_
  intro p e s m below meth c s₁ X0 hx hby hml hown hnm hret hlk hZ e0
  refine End.cast ?_ (ef_6 m x0 x1 x2 x3 x4)
  have N0 := Fr.nil n0
  have loop : ∀ (d i : Nat) (T : State) (hh : Heap) (lc : List Loc) (o' d' i' : Int32) (u : Slot), n - i < d → Stand p l e ({ frames := 0, cells := 0, slots := 0, locals := 0 } : Room) s m #[(.ref x0), (.int x1), (.ref x2), (.int x3), (.int x4)] below meth c T lc 0 0 → T.heap = hh → Fr n0 lc → Keep h0 hh [x2] → Ary Z hh x0 .char n (fun t => .int (ch t)) → Ary Z hh x2 .byte n (own_by ch i) → Ix o' i → Ix d' i → Ix i' i → i ≤ n → One u → End p e below s (fun v h L => v = some (.int x4) ∧ Fr n0 L ∧ Keep h0 h [x2] ∧ Ary Z h x2 .byte n (fun t => .int (nar .byte (ch t).toInt8.toInt32))) 0 0 (T.setTop (mkF m 3 #[.val (.ref x0), .val (.int o'), .val (.ref x2), .val (.int d'), .val (.int x4), .val (.int i'), u] [])) := by
    intro d
    induction d with
    | zero => intro i T hh lc o' d' i' u h; omega
    | succ d ih =>
      intro i T hh lc o' d' i' u hd X eT NT KT V0 V2 ho hd' hi hle hu
      refine k_iload X hx (q := 5) rfl (hb hby d6_3) rfl ?_
      refine k_iload X hx (q := 7) rfl (hb hby d6_5) rfl ?_
      refine k_icmp_ge X hx (q1 := 44) (q := 10) (by decide) (by decide) rfl (hb hby d6_7) (fun hc1 => ?_) (fun hc1 => ?_)
      · have hik : i = n := by have := mt (own_lt hi hx4).mpr hc1; omega
        refine k_iload X hx (q := 46) rfl (hb hby d6_44) rfl ?_
        exact k_retI X hx hlk (by decide) (by decide) hret (hb hby d6_46) ⟨rfl, NT, by rw [eT]; exact KT, by rw [eT]; exact V2.congr fun t ht => by unfold own_by; rw [if_pos (by omega)]⟩
      · have hik := (own_lt hi hx4).mp hc1
        refine k_aloadN X hx (q := 11) rfl (hb hby d6_10) rfl rfl ?_
        refine k_iloadN X hx (q := 12) rfl (hb hby d6_11) rfl ?_
        refine k_arC X hx hZ eT (x := (.int (ch i))) i (q := 13) rfl (hb hby d6_12) V0 ho hik rfl ?_
        refine k_istore X hx (L' := #[.val (.ref x0), .val (.int o'), .val (.ref x2), .val (.int d'), .val (.int x4), .val (.int i'), .val (.int (ch i))]) (q := 15) rfl (hb hby d6_13) (os6_13_0 hu) ?_
        refine k_iload X hx (q := 17) rfl (hb hby d6_15) rfl ?_
        refine k_sipush X hx (v := (255 : Int32)) rfl (q := 20) rfl (hb hby d6_17) ?_
        refine k_icmp_le X hx (q1 := 26) (q := 23) (by decide) (by decide) rfl (hb hby d6_20) (fun _ => ?_) (fun hc => absurd hc (hch i hik))
        refine k_aloadN X hx (q := 27) rfl (hb hby d6_26) rfl rfl ?_
        refine k_iloadN X hx (q := 28) rfl (hb hby d6_27) rfl ?_
        refine k_iload X hx (q := 30) rfl (hb hby d6_28) rfl ?_
        refine k_i2b X hx (q := 31) rfl (hb hby d6_30) ?_
        refine k_asB X hx hZ eT i (q := 32) rfl (hb hby d6_31) V2 hd' hik ?_
        intro T3 h3 X3 e3 W3 V3
        have K3 := Keep.of_wr W3
        have N3 := Fr.snoc X3 NT ga
        refine k_iinc X3 hx (L' := #[.val (.ref x0), .val (.int (o' + (1 : Int32))), .val (.ref x2), .val (.int d'), .val (.int x4), .val (.int i'), .val (.int (ch i))]) (q := 35) rfl (hb hby d6_32) rfl rfl ?_
        refine k_iinc X3 hx (L' := #[.val (.ref x0), .val (.int (o' + (1 : Int32))), .val (.ref x2), .val (.int (d' + (1 : Int32))), .val (.int x4), .val (.int i'), .val (.int (ch i))]) (q := 38) rfl (hb hby d6_35) rfl rfl ?_
        refine k_iinc X3 hx (L' := #[.val (.ref x0), .val (.int (o' + (1 : Int32))), .val (.ref x2), .val (.int (d' + (1 : Int32))), .val (.int x4), .val (.int (i' + (1 : Int32))), .val (.int (ch i))]) (q := 41) rfl (hb hby d6_38) rfl rfl ?_
        refine k_goto X3 hx (q := 3) (by decide) (by decide) (hb hby d6_41) ?_
        have Gu4 := (V0.keep K3 (ninS ne nin0))
        exact ih (i + 1) _ _ _ _ _ _ _ (by omega) X3 e3 N3 (Keep.trans KT K3 (allS (Or.inl (List.mem_of_getElem? (i := 0) rfl)) all0)) Gu4 (V3.congr (own_by_step ch i n)) (own_up ho (by omega)) (own_up hd' (by omega)) (own_up hi (by omega)) (by omega) (One.val rfl)
  refine k_iconst X0 hx (v := (0 : Int32)) rfl (q := 1) rfl (hb hby d6_0) ?_
  refine k_istore X0 hx (L' := #[.val (.ref x0), .val (.int x1), .val (.ref x2), .val (.int x3), .val (.int x4), .val (.int (0 : Int32)), .unset]) (q := 3) rfl (hb hby d6_1) rfl ?_
  exact loop (n + 1) 0 _ _ _ _ _ _ _ (by omega) X0 e0 N0 (Keep.refl h0 [x2]) V0 (V2.congr fun t _ => by unfold own_by; rw [if_neg (by omega)]) hx1 hx3 ⟨by decide, by decide⟩ (by omega) One.u
theorem d5_0 : decode jdk_52_method_16_code 0 = .ok (.iload_n 2, 1) := by decide +kernel
theorem d5_1 : decode jdk_52_method_16_code 1 = .ok (.newarray .byte, 2) := by decide +kernel
theorem d5_3 : decode jdk_52_method_16_code 3 = .ok (.astore_n 3, 1) := by decide +kernel
theorem d5_4 : decode jdk_52_method_16_code 4 = .ok (.aload_n 0, 1) := by decide +kernel
theorem d5_5 : decode jdk_52_method_16_code 5 = .ok (.iload_n 1, 1) := by decide +kernel
theorem d5_6 : decode jdk_52_method_16_code 6 = .ok (.aload_n 3, 1) := by decide +kernel
theorem d5_7 : decode jdk_52_method_16_code 7 = .ok (.iconst 0, 1) := by decide +kernel
theorem d5_8 : decode jdk_52_method_16_code 8 = .ok (.iload_n 2, 1) := by decide +kernel
theorem d5_9 : decode jdk_52_method_16_code 9 = .ok (.invokestatic 115, 3) := by decide +kernel
theorem d5_12 : decode jdk_52_method_16_code 12 = .ok (.istore 4, 2) := by decide +kernel
theorem d5_14 : decode jdk_52_method_16_code 14 = .ok (.iload 4, 2) := by decide +kernel
theorem d5_16 : decode jdk_52_method_16_code 16 = .ok (.iload_n 2, 1) := by decide +kernel
theorem d5_17 : decode jdk_52_method_16_code 17 = .ok (.if_icmp .eq 40, 3) := by decide +kernel
theorem d5_57 : decode jdk_52_method_16_code 57 = .ok (.aload_n 3, 1) := by decide +kernel
theorem d5_58 : decode jdk_52_method_16_code 58 = .ok (.areturn, 1) := by decide +kernel
theorem ef_5 (m : MethodId) (x0 : Addr) (x1 : Int32) (x2 : Int32) : entryFrame m #[(.ref x0), (.int x1), (.int x2)] 6 = mkF m 0 #[.val (.ref x0), .val (.int x1), .val (.int x2), .unset, .unset, .unset] [] := by first | (simp [entryFrame, mkF, argsToLocals, Value.category]; done) | rfl
set_option maxRecDepth 65536 in
set_option maxHeartbeats 40000000 in
theorem rm5 (l : Launch) (Z : State) (a0 : Array Value) (hw : ∀ d ∈ tables_1, d.before a0 Z = true) (x0 : Addr) (x1 : Int32) (x2 : Int32) (h0 : Heap) (n0 : Nat) (Z0 : n0 ≤ h0.size) (n : Nat) (hn1 : 1 ≤ n) (hn : n ≤ 4000) (ch : Nat → Int32) (hch : ∀ t, t < n → ¬ (255 : Int32) < ch t) (hcap : n ≤ 1) (hx1 : Ix x1 0) (hx2 : Ix x2 n) (V0 : Ary Z h0 x0 .char n (fun t => .int (ch t))) :
    Con l Z (⟨"java/lang/StringUTF16", "compress", "([CII)[B"⟩ : MethodName) jdk_52_method_16_code 6 (some (.array .byte)) [] ({ frames := 1, cells := 1, slots := 1, locals := 18 } : Room) #[(.ref x0), (.int x1), (.int x2)] h0 (fun v h L => ∃ b : Addr, v = some (.ref b) ∧ Fr n0 L ∧ Keep h0 h [] ∧ h0.size ≤ b ∧ Ary Z h b .byte n (fun t => .int (nar .byte (ch t).toInt8.toInt32))) := by
  refine Con.of (plainFor_of_name pn_0) ?_
  intro p e s m below meth c s₁ X0 hx hby hml hown hnm hret hlk hZ e0
  refine End.cast ?_ (ef_5 m x0 x1 x2)
  have N0 := Fr.nil n0
  refine k_iloadN X0 hx (q := 1) rfl (hb hby d5_0) rfl ?_
  refine k_newP X0 hx hZ (hw _ (List.mem_of_getElem? (i := 26) rfl)) e0 (q := 3) rfl (hb hby d5_1) hx2.1 (cap := 1) (by rw [hx2.2]; omega) (by decide) (by decide) (by decide) ?_
  intro T1 h1 ba k1 X1 e1 g1 E1 A1
  have K1 := Keep.of_ext E1
  have V1 : Ary Z h1 ba .byte n (fun _ => .int (0 : Int32)) := Ary.new A1 hx2.1 hx2.2
  refine k_astoreN X1 hx (L' := #[.val (.ref x0), .val (.int x1), .val (.int x2), .val (.ref ba), .unset, .unset]) (q := 4) rfl (hb hby d5_3) rfl rfl ?_
  refine k_aloadN X1 hx (q := 5) rfl (hb hby d5_4) rfl rfl ?_
  refine k_iloadN X1 hx (q := 6) rfl (hb hby d5_5) rfl ?_
  refine k_aloadN X1 hx (q := 7) rfl (hb hby d5_6) rfl rfl ?_
  refine k_iconst X1 hx (v := (0 : Int32)) rfl (q := 8) rfl (hb hby d5_7) ?_
  refine k_iloadN X1 hx (q := 9) rfl (hb hby d5_8) rfl ?_
  have ge_ba : n0 ≤ ba := Nat.le_trans Z0 (Nat.le_of_eq g1.symm)
  have ne_x0_ba : x0 ≠ ba := Nat.ne_of_lt (Nat.lt_of_lt_of_le (V0).lt (Nat.le_of_eq g1.symm))
  have Gu2 := (V0.keep K1 nin0)
  refine k_callS X1 hx hZ (y := (⟨"java/lang/StringUTF16", "compress", "([CI[BII)I"⟩ : MethodName)) hown (hw _ (List.mem_of_getElem? (i := 27) rfl)) (hw _ (List.mem_of_getElem? (i := 28) rfl)) (hw _ (List.mem_of_getElem? (i := 24) rfl)) (hw _ (List.mem_of_getElem? (i := 29) rfl)) (by decide) 0 e1 (rm6 l Z a0 hw x0 x1 ba (0 : Int32) x2 h1 n0 n hn1 hn ch hch hx1 ⟨by decide, by decide⟩ hx2 ge_ba ne_x0_ba Gu2 V1) (by decide) (by decide) (by decide) (by decide) (by rw [hml]; rfl) (as := [(.ref x0), (.int x1), (.ref ba), (.int (0 : Int32)), (.int x2)]) (rest := []) pd_0 rfl (by first | exact Nat.le_refl _ | simp [Value.category]) (q := 12) rfl (hb hby d5_9) ?_
  rintro _ T3 L3 X3 ⟨rfl, N3q, K3, V3⟩
  have N3 := Fr.app N0 N3q
  show End _ _ _ _ _ _ _ (T3.setTop (mkF m 12 #[.val (.ref x0), .val (.int x1), .val (.int x2), .val (.ref ba), .unset, .unset] [(.int x2)]))
  refine k_istore X3 hx (L' := #[.val (.ref x0), .val (.int x1), .val (.int x2), .val (.ref ba), .val (.int x2), .unset]) (q := 14) rfl (hb hby d5_12) rfl ?_
  refine k_iload X3 hx (q := 16) rfl (hb hby d5_14) rfl ?_
  refine k_iloadN X3 hx (q := 17) rfl (hb hby d5_16) rfl ?_
  refine k_icmp_eq X3 hx (q1 := 57) (q := 20) (by decide) (by decide) rfl (hb hby d5_17) (fun _ => ?_) (fun hc => absurd rfl hc)
  refine k_aloadN X3 hx (q := 58) rfl (hb hby d5_57) rfl rfl ?_
  have Kp5 : Keep h0 h1 [] := Keep.trans (Keep.refl h0 []) K1 all0
  have Kp6 : Keep h0 T3.heap [] := Keep.trans Kp5 K3 (allS (Or.inr (Nat.le_trans (Keep.refl h0 []).1 (Nat.le_of_eq g1.symm))) all0)
  exact k_retA X3 hx hlk (by decide) (by decide) hret rfl rfl (hb hby d5_58) ⟨ba, rfl, N3, Kp6, (Nat.le_of_eq g1.symm), V3⟩
theorem d7_0 : decode jdk_52_method_15_code 0 = .ok (.iload_n 1, 1) := by decide +kernel
theorem d7_1 : decode jdk_52_method_15_code 1 = .ok (.aload_n 0, 1) := by decide +kernel
theorem d7_2 : decode jdk_52_method_15_code 2 = .ok (.arraylength, 1) := by decide +kernel
theorem d7_3 : decode jdk_52_method_15_code 3 = .ok (.isub, 1) := by decide +kernel
theorem d7_4 : decode jdk_52_method_15_code 4 = .ok (.bipush 31, 2) := by decide +kernel
theorem d7_6 : decode jdk_52_method_15_code 6 = .ok (.iushr, 1) := by decide +kernel
theorem d7_7 : decode jdk_52_method_15_code 7 = .ok (.i2b, 1) := by decide +kernel
theorem d7_8 : decode jdk_52_method_15_code 8 = .ok (.ireturn, 1) := by decide +kernel
theorem ef_7 (m : MethodId) (x0 : Addr) (x1 : Int32) : entryFrame m #[(.ref x0), (.int x1)] 2 = mkF m 0 #[.val (.ref x0), .val (.int x1)] [] := by first | (simp [entryFrame, mkF, argsToLocals, Value.category]; done) | rfl
set_option maxRecDepth 65536 in
set_option maxHeartbeats 40000000 in
theorem rm7 (l : Launch) (Z : State) (a0 : Array Value) (hw : ∀ d ∈ tables_1, d.before a0 Z = true) (x0 : Addr) (x1 : Int32) (h0 : Heap) (n0 : Nat) (n : Nat) (v : Nat → Value) (hx1 : n.toInt32 = x1) (V0 : Ary Z h0 x0 .byte n v) :
    Con l Z (⟨"java/lang/StringUTF16", "coderFromArrayLen", "([BI)B"⟩ : MethodName) jdk_52_method_15_code 2 (some .byte) [] ({ frames := 0, cells := 0, slots := 0, locals := 0 } : Room) #[(.ref x0), (.int x1)] h0 (fun v h L => v = some (.int 0) ∧ Fr n0 L ∧ h = h0) := by
  refine Con.of (plainFor_of_name pn_0) ?_
  intro p e s m below meth c s₁ X0 hx hby hml hown hnm hret hlk hZ e0
  refine End.cast ?_ (ef_7 m x0 x1)
  have N0 := Fr.nil n0
  refine k_iloadN X0 hx (q := 1) rfl (hb hby d7_0) rfl ?_
  refine k_aloadN X0 hx (q := 2) rfl (hb hby d7_1) rfl rfl ?_
  refine k_al X0 hx hZ e0 (z := x1) (q := 3) rfl (hb hby d7_2) V0 hx1 ?_
  refine k_isub X0 hx (q := 4) rfl (hb hby d7_3) ?_
  refine k_bipush X0 hx (v := (31 : Int32)) rfl (q := 6) rfl (hb hby d7_4) ?_
  refine k_iushr X0 hx (q := 7) rfl (hb hby d7_6) ?_
  refine k_i2b X0 hx (q := 8) rfl (hb hby d7_7) ?_
  exact k_retN X0 hx (t := .byte) hlk (by decide) (by decide) hret (by simp) (hb hby d7_8) ⟨by rw [show x1 - x1 = (0 : Int32) from by simp]; decide, N0, e0⟩
theorem d3_0 : decode jdk_42_method_149_code 0 = .ok (.aload_n 0, 1) := by decide +kernel
theorem d3_1 : decode jdk_42_method_149_code 1 = .ok (.invokespecial 1, 3) := by decide +kernel
theorem d3_4 : decode jdk_42_method_149_code 4 = .ok (.iload_n 3, 1) := by decide +kernel
theorem d3_5 : decode jdk_42_method_149_code 5 = .ok (.ifCond .ne 22, 3) := by decide +kernel
theorem d3_27 : decode jdk_42_method_149_code 27 = .ok (.getstatic 38, 3) := by decide +kernel
theorem d3_30 : decode jdk_42_method_149_code 30 = .ok (.ifCond .eq 28, 3) := by decide +kernel
theorem d3_33 : decode jdk_42_method_149_code 33 = .ok (.aload_n 1, 1) := by decide +kernel
theorem d3_34 : decode jdk_42_method_149_code 34 = .ok (.iload_n 2, 1) := by decide +kernel
theorem d3_35 : decode jdk_42_method_149_code 35 = .ok (.iload_n 3, 1) := by decide +kernel
theorem d3_36 : decode jdk_42_method_149_code 36 = .ok (.invokestatic 177, 3) := by decide +kernel
theorem d3_39 : decode jdk_42_method_149_code 39 = .ok (.astore 5, 2) := by decide +kernel
theorem d3_41 : decode jdk_42_method_149_code 41 = .ok (.aload_n 0, 1) := by decide +kernel
theorem d3_42 : decode jdk_42_method_149_code 42 = .ok (.aload 5, 2) := by decide +kernel
theorem d3_44 : decode jdk_42_method_149_code 44 = .ok (.iload_n 3, 1) := by decide +kernel
theorem d3_45 : decode jdk_42_method_149_code 45 = .ok (.invokestatic 47, 3) := by decide +kernel
theorem d3_48 : decode jdk_42_method_149_code 48 = .ok (.putfield 15, 3) := by decide +kernel
theorem d3_51 : decode jdk_42_method_149_code 51 = .ok (.aload_n 0, 1) := by decide +kernel
theorem d3_52 : decode jdk_42_method_149_code 52 = .ok (.aload 5, 2) := by decide +kernel
theorem d3_54 : decode jdk_42_method_149_code 54 = .ok (.putfield 9, 3) := by decide +kernel
theorem d3_57 : decode jdk_42_method_149_code 57 = .ok (.return_, 1) := by decide +kernel
theorem ef_3 (m : MethodId) (x0 : Addr) (x1 : Addr) (x2 : Int32) (x3 : Int32) : entryFrame m #[(.ref x0), (.ref x1), (.int x2), (.int x3), .null] 6 = mkF m 0 #[.val (.ref x0), .val (.ref x1), .val (.int x2), .val (.int x3), .val .null, .unset] [] := by first | (simp [entryFrame, mkF, argsToLocals, Value.category]; done) | rfl
set_option maxRecDepth 65536 in
set_option maxHeartbeats 40000000 in
theorem rm3 (l : Launch) (Z : State) (a0 : Array Value) (hw : ∀ d ∈ tables_1, d.before a0 Z = true) (x0 : Addr) (x1 : Addr) (x2 : Int32) (x3 : Int32) (h0 : Heap) (n0 : Nat) (Z0 : n0 ≤ h0.size) (n : Nat) (hn1 : 1 ≤ n) (hn : n ≤ 4000) (ch : Nat → Int32) (hch : ∀ t, t < n → ¬ (255 : Int32) < ch t) (hcap : n ≤ 1) (hx2 : Ix x2 0) (hx3 : Ix x3 n) (cs : Int32) (hcs : ¬ cs = (0 : Int32)) (hS : Sta Z h0 "java/lang/String" "COMPACT_STRINGS" "Z" (.int cs)) (ga : n0 ≤ x0) (E0 : Exa Z h0 x0 "java/lang/String") (F1 : Fld Z h0 x0 "java/lang/String" "value" "[B" .null) (F2 : Fld Z h0 x0 "java/lang/String" "coder" "B" (.int (0 : Int32))) (V0 : Ary Z h0 x1 .char n (fun t => .int (ch t))) :
    Con l Z (⟨"java/lang/String", "<init>", "([CIILjava/lang/Void;)V"⟩ : MethodName) jdk_42_method_149_code 6 none [] ({ frames := 2, cells := 1, slots := 1, locals := 35 } : Room) #[(.ref x0), (.ref x1), (.int x2), (.int x3), .null] h0 (fun v h L => v = none ∧ Fr n0 L ∧ Keep h0 h [x0] ∧ ∃ b : Addr, h0.size ≤ b ∧ Fld Z h x0 "java/lang/String" "value" "[B" (.ref b) ∧ Fld Z h x0 "java/lang/String" "coder" "B" (.int (0 : Int32)) ∧ Ary Z h b .byte n (fun t => .int (nar .byte (ch t).toInt8.toInt32))) := by
  refine Con.of (plainFor_of_name pn_1) ?_
  intro p e s m below meth c s₁ X0 hx hby hml hown hnm hret hlk hZ e0
  refine End.cast ?_ (ef_3 m x0 x1 x2 x3)
  have N0 := Fr.nil n0
  refine k_aloadN X0 hx (q := 1) rfl (hb hby d3_0) rfl rfl ?_
  refine k_initO X0 hx hZ hown (hw _ (List.mem_of_getElem? (i := 18) rfl)) (hw _ (List.mem_of_getElem? (i := 19) rfl)) (hw _ (List.mem_of_getElem? (i := 20) rfl)) e0 (q := 4) rfl (hb hby d3_1) (by rw [hml]; rfl) (by decide) 0 (by first | exact Nat.le_refl _ | simp [Value.category]) (by decide) ?_
  intro T1 X1 e1
  refine k_iloadN X1 hx (q := 5) rfl (hb hby d3_4) rfl ?_
  refine k_if_ne X1 hx (q1 := 27) (q := 8) (by decide) (by decide) rfl (hb hby d3_5) (fun _ => ?_) (fun hc => absurd hc (fun q => by have := (own_eqi hx3 (m := 0) (n := 0) ⟨by decide, by decide⟩).mp q; omega))
  refine k_getS X1 hx hZ (host := "") hown (Or.inl (hw _ (List.mem_of_getElem? (i := 21) rfl))) Via.refl e1 (v := (.int cs)) (q := 30) rfl (hb hby d3_27) hS ?_
  intro T3 X3 e3
  refine k_if_eq X3 hx (q1 := 58) (q := 33) (by decide) (by decide) rfl (hb hby d3_30) (fun hc => absurd hc hcs) (fun _ => ?_)
  refine k_aloadN X3 hx (q := 34) rfl (hb hby d3_33) rfl rfl ?_
  refine k_iloadN X3 hx (q := 35) rfl (hb hby d3_34) rfl ?_
  refine k_iloadN X3 hx (q := 36) rfl (hb hby d3_35) rfl ?_
  refine k_callS X3 hx hZ (y := (⟨"java/lang/StringUTF16", "compress", "([CII)[B"⟩ : MethodName)) hown (hw _ (List.mem_of_getElem? (i := 22) rfl)) (hw _ (List.mem_of_getElem? (i := 23) rfl)) (hw _ (List.mem_of_getElem? (i := 24) rfl)) (hw _ (List.mem_of_getElem? (i := 25) rfl)) (by decide) 0 e3 (rm5 l Z a0 hw x1 x2 x3 h0 n0 Z0 n hn1 hn ch hch hcap hx2 hx3 V0) (by decide) (by decide) (by decide) (by decide) (by rw [hml]; rfl) (as := [(.ref x1), (.int x2), (.int x3)]) (rest := []) pd_1 rfl (by first | exact Nat.le_refl _ | simp [Value.category]) (q := 39) rfl (hb hby d3_36) ?_
  rintro _ T5 L5 X5 ⟨ba, rfl, N5q, K5, le5, V5⟩
  have N5 := Fr.app N0 N5q
  show End _ _ _ _ _ _ _ (T5.setTop (mkF m 39 #[.val (.ref x0), .val (.ref x1), .val (.int x2), .val (.int x3), .val .null, .unset] [(.ref ba)]))
  refine k_astore X5 hx (L' := #[.val (.ref x0), .val (.ref x1), .val (.int x2), .val (.int x3), .val .null, .val (.ref ba)]) (q := 41) rfl (hb hby d3_39) rfl rfl ?_
  refine k_aloadN X5 hx (q := 42) rfl (hb hby d3_41) rfl rfl ?_
  refine k_aload X5 hx (q := 44) rfl (hb hby d3_42) rfl rfl ?_
  refine k_iloadN X5 hx (q := 45) rfl (hb hby d3_44) rfl ?_
  refine k_callS X5 hx hZ (y := (⟨"java/lang/StringUTF16", "coderFromArrayLen", "([BI)B"⟩ : MethodName)) hown (hw _ (List.mem_of_getElem? (i := 30) rfl)) (hw _ (List.mem_of_getElem? (i := 31) rfl)) (hw _ (List.mem_of_getElem? (i := 24) rfl)) (hw _ (List.mem_of_getElem? (i := 32) rfl)) (by decide) 1 rfl (rm7 l Z a0 hw ba x3 T5.heap n0 n _ (own_is hx3).symm V5) (by decide) (by decide) (by decide) (by decide) (by rw [hml]; rfl) (as := [(.ref ba), (.int x3)]) (rest := [(.ref x0)]) pd_2 rfl (by first | exact Nat.le_refl _ | simp [Value.category]) (q := 48) rfl (hb hby d3_45) ?_
  rintro _ T6 L6 X6 ⟨rfl, N6q, e6⟩
  have N6 := Fr.app N5 N6q
  show End _ _ _ _ _ _ _ (T6.setTop (mkF m 48 #[.val (.ref x0), .val (.ref x1), .val (.int x2), .val (.int x3), .val .null, .val (.ref ba)] [(.int (0 : Int32)), (.ref x0)]))
  have Gu7 := (F2.keep K5 nin0)
  have Gu8 := (E0.keep K5)
  refine k_putFN X6 hx hZ hown (hw _ (List.mem_of_getElem? (i := 33) rfl)) Via.refl e6 (Or.inr ⟨(hw _ (List.mem_of_getElem? (i := 34) rfl)), rfl, hnm⟩) (hw _ (List.mem_of_getElem? (i := 8) rfl)) (ty := .byte) (v' := (.int (nar .byte (0 : Int32)))) (by decide) rfl (fits_nar_byte _) (q := 51) rfl (hb hby d3_48) Gu7 Gu8 ?_
  intro T9 h9 X9 e9 W9
  have K9 := Keep.of_wr W9
  have N9 := Fr.snoc X9 N6 ga
  have Fw9 := (Gu7).same W9
  refine k_aloadN X9 hx (q := 52) rfl (hb hby d3_51) rfl rfl ?_
  refine k_aload X9 hx (q := 54) rfl (hb hby d3_52) rfl rfl ?_
  have Gu10 := ((F1.keep K5 nin0).other W9 (Or.inr (slot_ne (t := (.array .byte)) (t' := .byte) (Or.inr (hw _ (List.mem_of_getElem? (i := 36) rfl))) (Or.inr (hw _ (List.mem_of_getElem? (i := 34) rfl))) (by decide) (by decide) (by decide))))
  have Gu11 := (Gu8.keep K9)
  refine k_putF X9 hx hZ (host := "") hown (Or.inl (hw _ (List.mem_of_getElem? (i := 35) rfl))) Via.refl e9 (Or.inr ⟨(hw _ (List.mem_of_getElem? (i := 36) rfl)), rfl, hnm⟩) (hw _ (List.mem_of_getElem? (i := 8) rfl)) (ty := (.array .byte)) (by decide) rfl rfl (q := 57) rfl (hb hby d3_54) Gu10 Gu11 ?_
  intro T12 h12 X12 e12 W12
  have K12 := Keep.of_wr W12
  have N12 := Fr.snoc X12 N9 ga
  have Fw12 := (Gu10).same W12
  have Kp13 : Keep h0 T5.heap [x0] := Keep.trans (Keep.refl h0 [x0]) K5 all0
  have Kp14 : Keep h0 h9 [x0] := Keep.trans Kp13 K9 (allS (Or.inl (List.mem_of_getElem? (i := 0) rfl)) all0)
  have Kp15 : Keep h0 h12 [x0] := Keep.trans Kp14 K12 (allS (Or.inl (List.mem_of_getElem? (i := 0) rfl)) all0)
  have Gu16 := (Fw9.other W12 (Or.inr (slot_ne (t := .byte) (t' := (.array .byte)) (Or.inr (hw _ (List.mem_of_getElem? (i := 34) rfl))) (Or.inr (hw _ (List.mem_of_getElem? (i := 36) rfl))) (by decide) (by decide) (by decide))))
  have ne_x0_ba : x0 ≠ ba := Nat.ne_of_lt (Nat.lt_of_lt_of_le (E0).lt le5)
  have Gu17 := ((V5.keep K9 (ninS (Ne.symm ne_x0_ba) nin0)).keep K12 (ninS (Ne.symm ne_x0_ba) nin0))
  exact k_retV X12 hx hlk (by decide) (by decide) hret (hb hby d3_57) ⟨rfl, N12, by rw [e12]; exact Kp15, ba, le5, by rw [e12]; exact Fw12, by rw [e12]; exact Gu16, by rw [e12]; exact Gu17⟩
theorem d2_0 : decode jdk_42_method_3_code 0 = .ok (.aload_n 0, 1) := by decide +kernel
theorem d2_1 : decode jdk_42_method_3_code 1 = .ok (.aload_n 1, 1) := by decide +kernel
theorem d2_2 : decode jdk_42_method_3_code 2 = .ok (.iconst 0, 1) := by decide +kernel
theorem d2_3 : decode jdk_42_method_3_code 3 = .ok (.aload_n 1, 1) := by decide +kernel
theorem d2_4 : decode jdk_42_method_3_code 4 = .ok (.arraylength, 1) := by decide +kernel
theorem d2_5 : decode jdk_42_method_3_code 5 = .ok (.aconst_null, 1) := by decide +kernel
theorem d2_6 : decode jdk_42_method_3_code 6 = .ok (.invokespecial 27, 3) := by decide +kernel
theorem d2_9 : decode jdk_42_method_3_code 9 = .ok (.return_, 1) := by decide +kernel
theorem ef_2 (m : MethodId) (x0 : Addr) (x1 : Addr) : entryFrame m #[(.ref x0), (.ref x1)] 2 = mkF m 0 #[.val (.ref x0), .val (.ref x1)] [] := by first | (simp [entryFrame, mkF, argsToLocals, Value.category]; done) | rfl
set_option maxRecDepth 65536 in
set_option maxHeartbeats 40000000 in
theorem rm2 (l : Launch) (Z : State) (a0 : Array Value) (hw : ∀ d ∈ tables_1, d.before a0 Z = true) (x0 : Addr) (x1 : Addr) (h0 : Heap) (n0 : Nat) (Z0 : n0 ≤ h0.size) (n : Nat) (hn1 : 1 ≤ n) (hn : n ≤ 4000) (ch : Nat → Int32) (hch : ∀ t, t < n → ¬ (255 : Int32) < ch t) (hcap : n ≤ 1) (cs : Int32) (hcs : ¬ cs = (0 : Int32)) (hS : Sta Z h0 "java/lang/String" "COMPACT_STRINGS" "Z" (.int cs)) (ga : n0 ≤ x0) (E0 : Exa Z h0 x0 "java/lang/String") (F1 : Fld Z h0 x0 "java/lang/String" "value" "[B" .null) (F2 : Fld Z h0 x0 "java/lang/String" "coder" "B" (.int (0 : Int32))) (V0 : Ary Z h0 x1 .char n (fun t => .int (ch t))) :
    Con l Z (⟨"java/lang/String", "<init>", "([C)V"⟩ : MethodName) jdk_42_method_3_code 2 none [] ({ frames := 3, cells := 1, slots := 1, locals := 52 } : Room) #[(.ref x0), (.ref x1)] h0 (fun v h L => v = none ∧ Fr n0 L ∧ Keep h0 h [x0] ∧ ∃ b : Addr, h0.size ≤ b ∧ Fld Z h x0 "java/lang/String" "value" "[B" (.ref b) ∧ Fld Z h x0 "java/lang/String" "coder" "B" (.int (0 : Int32)) ∧ Ary Z h b .byte n (fun t => .int (nar .byte (ch t).toInt8.toInt32))) := by
  refine Con.of (plainFor_of_name pn_1) ?_
  intro p e s m below meth c s₁ X0 hx hby hml hown hnm hret hlk hZ e0
  refine End.cast ?_ (ef_2 m x0 x1)
  have N0 := Fr.nil n0
  refine k_aloadN X0 hx (q := 1) rfl (hb hby d2_0) rfl rfl ?_
  refine k_aloadN X0 hx (q := 2) rfl (hb hby d2_1) rfl rfl ?_
  refine k_iconst X0 hx (v := (0 : Int32)) rfl (q := 3) rfl (hb hby d2_2) ?_
  refine k_aloadN X0 hx (q := 4) rfl (hb hby d2_3) rfl rfl ?_
  refine k_al X0 hx hZ e0 (z := n.toInt32) (q := 5) rfl (hb hby d2_4) V0 rfl ?_
  refine k_aconst_null X0 hx (q := 6) rfl (hb hby d2_5) ?_
  refine k_callI X0 hx hZ (y := (⟨"java/lang/String", "<init>", "([CIILjava/lang/Void;)V"⟩ : MethodName)) hown rfl (hw _ (List.mem_of_getElem? (i := 14) rfl)) (hw _ (List.mem_of_getElem? (i := 15) rfl)) (hw _ (List.mem_of_getElem? (i := 9) rfl)) (hw _ (List.mem_of_getElem? (i := 17) rfl)) (by decide) 0 e0 (rm3 l Z a0 hw x0 x1 (0 : Int32) n.toInt32 h0 n0 Z0 n hn1 hn ch hch hcap ⟨by decide, by decide⟩ (own_nat (by omega)) cs hcs hS ga E0 F1 F2 V0) (by decide) (by decide) (by decide) (by decide) (by rw [hml]; rfl) (a := x0) (as := [(.ref x1), (.int (0 : Int32)), (.int n.toInt32), .null]) (rest := []) pd_3 rfl (by first | exact Nat.le_refl _ | simp [Value.category]) (q := 9) rfl (hb hby d2_6) ?_
  rintro _ T1 L1 X1 ⟨rfl, N1q, K1, ba, le1, G11, G21, V1⟩
  have N1 := Fr.app N0 N1q
  show End _ _ _ _ _ _ _ (T1.setTop (mkF m 9 #[.val (.ref x0), .val (.ref x1)] []))
  exact k_retV X1 hx hlk (by decide) (by decide) hret (hb hby d2_9) ⟨rfl, N1, K1, ba, le1, G11, G21, V1⟩
theorem d12_0 : decode jdk_42_method_152_code 0 = .ok (.getstatic 38, 3) := by decide +kernel
theorem d12_3 : decode jdk_42_method_152_code 3 = .ok (.ifCond .eq 10, 3) := by decide +kernel
theorem d12_6 : decode jdk_42_method_152_code 6 = .ok (.aload_n 0, 1) := by decide +kernel
theorem d12_7 : decode jdk_42_method_152_code 7 = .ok (.getfield 15, 3) := by decide +kernel
theorem d12_10 : decode jdk_42_method_152_code 10 = .ok (.goto 4, 3) := by decide +kernel
theorem d12_14 : decode jdk_42_method_152_code 14 = .ok (.ireturn, 1) := by decide +kernel
theorem ef_12 (m : MethodId) (x0 : Addr) : entryFrame m #[(.ref x0)] 1 = mkF m 0 #[.val (.ref x0)] [] := by first | (simp [entryFrame, mkF, argsToLocals, Value.category]; done) | rfl
set_option maxRecDepth 65536 in
set_option maxHeartbeats 40000000 in
theorem rm12 (l : Launch) (Z : State) (a0 : Array Value) (hw : ∀ d ∈ tables_1, d.before a0 Z = true) (x0 : Addr) (h0 : Heap) (n0 : Nat) (cs : Int32) (hcs : ¬ cs = (0 : Int32)) (hS : Sta Z h0 "java/lang/String" "COMPACT_STRINGS" "Z" (.int cs)) (F2 : Fld Z h0 x0 "java/lang/String" "coder" "B" (.int (0 : Int32))) :
    Con l Z (⟨"java/lang/String", "coder", "()B"⟩ : MethodName) jdk_42_method_152_code 1 (some .byte) [] ({ frames := 0, cells := 0, slots := 0, locals := 0 } : Room) #[(.ref x0)] h0 (fun v h L => v = some (.int 0) ∧ Fr n0 L ∧ h = h0) := by
  refine Con.of (plainFor_of_name pn_1) ?_
  intro p e s m below meth c s₁ X0 hx hby hml hown hnm hret hlk hZ e0
  refine End.cast ?_ (ef_12 m x0)
  have N0 := Fr.nil n0
  refine k_getS X0 hx hZ (host := "") hown (Or.inl (hw _ (List.mem_of_getElem? (i := 21) rfl))) Via.refl e0 (v := (.int cs)) (q := 3) rfl (hb hby d12_0) hS ?_
  intro T1 X1 e1
  refine k_if_eq X1 hx (q1 := 13) (q := 6) (by decide) (by decide) rfl (hb hby d12_3) (fun hc => absurd hc hcs) (fun _ => ?_)
  refine k_aloadN X1 hx (q := 7) rfl (hb hby d12_6) rfl rfl ?_
  refine k_getF X1 hx hZ (host := "") hown (Or.inl (hw _ (List.mem_of_getElem? (i := 33) rfl))) Via.refl e1 (q := 10) rfl (hb hby d12_7) F2 ?_
  intro T3 X3 e3
  refine k_goto X3 hx (q := 14) (by decide) (by decide) (hb hby d12_10) ?_
  exact k_retN X3 hx (t := .byte) hlk (by decide) (by decide) hret (by simp) (hb hby d12_14) ⟨rfl, N0, e3⟩
theorem d11_0 : decode jdk_42_method_54_code 0 = .ok (.aload_n 0, 1) := by decide +kernel
theorem d11_1 : decode jdk_42_method_54_code 1 = .ok (.getfield 9, 3) := by decide +kernel
theorem d11_4 : decode jdk_42_method_54_code 4 = .ok (.arraylength, 1) := by decide +kernel
theorem d11_5 : decode jdk_42_method_54_code 5 = .ok (.aload_n 0, 1) := by decide +kernel
theorem d11_6 : decode jdk_42_method_54_code 6 = .ok (.invokevirtual 335, 3) := by decide +kernel
theorem d11_9 : decode jdk_42_method_54_code 9 = .ok (.ishr, 1) := by decide +kernel
theorem d11_10 : decode jdk_42_method_54_code 10 = .ok (.ireturn, 1) := by decide +kernel
theorem ef_11 (m : MethodId) (x0 : Addr) : entryFrame m #[(.ref x0)] 1 = mkF m 0 #[.val (.ref x0)] [] := by first | (simp [entryFrame, mkF, argsToLocals, Value.category]; done) | rfl
set_option maxRecDepth 65536 in
set_option maxHeartbeats 40000000 in
theorem rm11 (l : Launch) (Z : State) (a0 : Array Value) (hw : ∀ d ∈ tables_1, d.before a0 Z = true) (x0 : Addr) (h0 : Heap) (n0 : Nat) (cs : Int32) (hcs : ¬ cs = (0 : Int32)) (hS : Sta Z h0 "java/lang/String" "COMPACT_STRINGS" "Z" (.int cs)) (F2 : Fld Z h0 x0 "java/lang/String" "coder" "B" (.int (0 : Int32))) (E0 : Exa Z h0 x0 "java/lang/String") (ba : Addr) (F1 : Fld Z h0 x0 "java/lang/String" "value" "[B" (.ref ba)) (n : Nat) (v : Nat → Value) (V0 : Ary Z h0 ba .byte n v) :
    Con l Z (⟨"java/lang/String", "length", "()I"⟩ : MethodName) jdk_42_method_54_code 1 (some .int) [] ({ frames := 1, cells := 0, slots := 0, locals := 13 } : Room) #[(.ref x0)] h0 (fun v h L => v = some (.int n.toInt32) ∧ Fr n0 L ∧ h = h0) := by
  refine Con.of (plainFor_of_name pn_1) ?_
  intro p e s m below meth c s₁ X0 hx hby hml hown hnm hret hlk hZ e0
  refine End.cast ?_ (ef_11 m x0)
  have N0 := Fr.nil n0
  refine k_aloadN X0 hx (q := 1) rfl (hb hby d11_0) rfl rfl ?_
  refine k_getF X0 hx hZ (host := "") hown (Or.inl (hw _ (List.mem_of_getElem? (i := 35) rfl))) Via.refl e0 (q := 4) rfl (hb hby d11_1) F1 ?_
  intro T1 X1 e1
  refine k_al X1 hx hZ e1 (z := n.toInt32) (q := 5) rfl (hb hby d11_4) V0 rfl ?_
  refine k_aloadN X1 hx (q := 6) rfl (hb hby d11_5) rfl rfl ?_
  refine k_callV X1 hx hZ (y := (⟨"java/lang/String", "coder", "()B"⟩ : MethodName)) (z := (⟨"java/lang/String", "coder", "()B"⟩ : MethodName)) hown (hw _ (List.mem_of_getElem? (i := 69) rfl)) (hw _ (List.mem_of_getElem? (i := 70) rfl)) (notFace_of_selects (args := #[]) (mvT hZ (hw _ (List.mem_of_getElem? (i := 72) rfl)))) (hw _ (List.mem_of_getElem? (i := 72) rfl)) (hw _ (List.mem_of_getElem? (i := 71) rfl)) (hw _ (List.mem_of_getElem? (i := 73) rfl)) (hw _ (List.mem_of_getElem? (i := 9) rfl)) (by decide) E0 1 e1 (rm12 l Z a0 hw x0 h0 n0 cs hcs hS F2) (by decide) (by decide) (by decide) (by decide) (by rw [hml]; rfl) (a := x0) (as := []) (rest := [(.int n.toInt32)]) pd_4 rfl (by first | exact Nat.le_refl _ | simp [Value.category]) (q := 9) rfl (hb hby d11_6) ?_
  rintro _ T2 L2 X2 ⟨rfl, N2q, e2⟩
  have N2 := Fr.app N0 N2q
  show End _ _ _ _ _ _ _ (T2.setTop (mkF m 9 #[.val (.ref x0)] [(.int (0 : Int32)), (.int n.toInt32)]))
  refine k_ishr X2 hx (q := 10) rfl (hb hby d11_9) ?_
  exact k_retI X2 hx hlk (by decide) (by decide) hret (hb hby d11_10) ⟨by rw [show n.toInt32 >>> ((0 : Int32) &&& 31) = n.toInt32 from by simp], N2, e2⟩
theorem d1_0 : decode method_2_code 0 = .ok (.lload_n 0, 1) := by decide +kernel
theorem d1_1 : decode method_2_code 1 = .ok (.lconst 1, 1) := by decide +kernel
theorem d1_2 : decode method_2_code 2 = .ok (.lcmp, 1) := by decide +kernel
theorem d1_3 : decode method_2_code 3 = .ok (.ifCond .gt 5, 3) := by decide +kernel
theorem d1_6 : decode method_2_code 6 = .ok (.iconst 1, 1) := by decide +kernel
theorem d1_7 : decode method_2_code 7 = .ok (.ireturn, 1) := by decide +kernel
theorem d1_8 : decode method_2_code 8 = .ok (.lload_n 0, 1) := by decide +kernel
theorem d1_9 : decode method_2_code 9 = .ok (.ldc2_w 7, 3) := by decide +kernel
theorem d1_12 : decode method_2_code 12 = .ok (.lcmp, 1) := by decide +kernel
theorem d1_13 : decode method_2_code 13 = .ok (.ifCond .gt 5, 3) := by decide +kernel
theorem d1_16 : decode method_2_code 16 = .ok (.iconst 2, 1) := by decide +kernel
theorem d1_17 : decode method_2_code 17 = .ok (.ireturn, 1) := by decide +kernel
theorem d1_18 : decode method_2_code 18 = .ok (.lload_n 0, 1) := by decide +kernel
theorem d1_19 : decode method_2_code 19 = .ok (.ldc2_w 9, 3) := by decide +kernel
theorem d1_22 : decode method_2_code 22 = .ok (.lcmp, 1) := by decide +kernel
theorem d1_23 : decode method_2_code 23 = .ok (.ifCond .gt 5, 3) := by decide +kernel
theorem d1_26 : decode method_2_code 26 = .ok (.iconst 4, 1) := by decide +kernel
theorem d1_27 : decode method_2_code 27 = .ok (.ireturn, 1) := by decide +kernel
theorem d1_28 : decode method_2_code 28 = .ok (.lload_n 0, 1) := by decide +kernel
theorem d1_29 : decode method_2_code 29 = .ok (.ldc2_w 11, 3) := by decide +kernel
theorem d1_32 : decode method_2_code 32 = .ok (.lcmp, 1) := by decide +kernel
theorem d1_33 : decode method_2_code 33 = .ok (.ifCond .gt 6, 3) := by decide +kernel
theorem d1_36 : decode method_2_code 36 = .ok (.bipush 8, 2) := by decide +kernel
theorem d1_38 : decode method_2_code 38 = .ok (.ireturn, 1) := by decide +kernel
theorem d1_39 : decode method_2_code 39 = .ok (.lload_n 0, 1) := by decide +kernel
theorem d1_40 : decode method_2_code 40 = .ok (.ldc2_w 13, 3) := by decide +kernel
theorem d1_43 : decode method_2_code 43 = .ok (.lcmp, 1) := by decide +kernel
theorem d1_44 : decode method_2_code 44 = .ok (.ifCond .gt 6, 3) := by decide +kernel
theorem d1_47 : decode method_2_code 47 = .ok (.bipush 16, 2) := by decide +kernel
theorem d1_49 : decode method_2_code 49 = .ok (.ireturn, 1) := by decide +kernel
theorem d1_50 : decode method_2_code 50 = .ok (.lload_n 0, 1) := by decide +kernel
theorem d1_51 : decode method_2_code 51 = .ok (.ldc2_w 15, 3) := by decide +kernel
theorem d1_54 : decode method_2_code 54 = .ok (.lcmp, 1) := by decide +kernel
theorem d1_55 : decode method_2_code 55 = .ok (.ifCond .gt 6, 3) := by decide +kernel
theorem d1_58 : decode method_2_code 58 = .ok (.bipush 32, 2) := by decide +kernel
theorem d1_60 : decode method_2_code 60 = .ok (.ireturn, 1) := by decide +kernel
theorem d1_61 : decode method_2_code 61 = .ok (.lload_n 0, 1) := by decide +kernel
theorem d1_62 : decode method_2_code 62 = .ok (.ldc2_w 17, 3) := by decide +kernel
theorem d1_65 : decode method_2_code 65 = .ok (.lcmp, 1) := by decide +kernel
theorem d1_66 : decode method_2_code 66 = .ok (.ifCond .gt 6, 3) := by decide +kernel
theorem d1_69 : decode method_2_code 69 = .ok (.bipush 64, 2) := by decide +kernel
theorem d1_71 : decode method_2_code 71 = .ok (.ireturn, 1) := by decide +kernel
theorem d1_72 : decode method_2_code 72 = .ok (.lload_n 0, 1) := by decide +kernel
theorem d1_73 : decode method_2_code 73 = .ok (.ldc2_w 19, 3) := by decide +kernel
theorem d1_76 : decode method_2_code 76 = .ok (.lcmp, 1) := by decide +kernel
theorem d1_77 : decode method_2_code 77 = .ok (.ifCond .gt 7, 3) := by decide +kernel
theorem d1_80 : decode method_2_code 80 = .ok (.sipush 128, 3) := by decide +kernel
theorem d1_83 : decode method_2_code 83 = .ok (.ireturn, 1) := by decide +kernel
theorem d1_84 : decode method_2_code 84 = .ok (.lload_n 0, 1) := by decide +kernel
theorem d1_85 : decode method_2_code 85 = .ok (.ldc2_w 21, 3) := by decide +kernel
theorem d1_88 : decode method_2_code 88 = .ok (.lcmp, 1) := by decide +kernel
theorem d1_89 : decode method_2_code 89 = .ok (.ifCond .gt 7, 3) := by decide +kernel
theorem d1_92 : decode method_2_code 92 = .ok (.sipush 256, 3) := by decide +kernel
theorem d1_95 : decode method_2_code 95 = .ok (.ireturn, 1) := by decide +kernel
theorem d1_96 : decode method_2_code 96 = .ok (.lload_n 0, 1) := by decide +kernel
theorem d1_97 : decode method_2_code 97 = .ok (.ldc2_w 23, 3) := by decide +kernel
theorem d1_100 : decode method_2_code 100 = .ok (.lcmp, 1) := by decide +kernel
theorem d1_101 : decode method_2_code 101 = .ok (.ifCond .gt 7, 3) := by decide +kernel
theorem d1_104 : decode method_2_code 104 = .ok (.sipush 512, 3) := by decide +kernel
theorem d1_107 : decode method_2_code 107 = .ok (.ireturn, 1) := by decide +kernel
theorem d1_108 : decode method_2_code 108 = .ok (.lload_n 0, 1) := by decide +kernel
theorem d1_109 : decode method_2_code 109 = .ok (.ldc2_w 25, 3) := by decide +kernel
theorem d1_112 : decode method_2_code 112 = .ok (.lcmp, 1) := by decide +kernel
theorem d1_113 : decode method_2_code 113 = .ok (.ifCond .gt 7, 3) := by decide +kernel
theorem d1_116 : decode method_2_code 116 = .ok (.sipush 1024, 3) := by decide +kernel
theorem d1_119 : decode method_2_code 119 = .ok (.ireturn, 1) := by decide +kernel
theorem d1_120 : decode method_2_code 120 = .ok (.lload_n 0, 1) := by decide +kernel
theorem d1_121 : decode method_2_code 121 = .ok (.ldc2_w 27, 3) := by decide +kernel
theorem d1_124 : decode method_2_code 124 = .ok (.lcmp, 1) := by decide +kernel
theorem d1_125 : decode method_2_code 125 = .ok (.ifCond .gt 7, 3) := by decide +kernel
theorem d1_128 : decode method_2_code 128 = .ok (.sipush 2048, 3) := by decide +kernel
theorem d1_131 : decode method_2_code 131 = .ok (.ireturn, 1) := by decide +kernel
theorem d1_132 : decode method_2_code 132 = .ok (.lload_n 0, 1) := by decide +kernel
theorem d1_133 : decode method_2_code 133 = .ok (.ldc2_w 29, 3) := by decide +kernel
theorem d1_136 : decode method_2_code 136 = .ok (.lcmp, 1) := by decide +kernel
theorem d1_137 : decode method_2_code 137 = .ok (.ifCond .gt 7, 3) := by decide +kernel
theorem d1_140 : decode method_2_code 140 = .ok (.sipush 4096, 3) := by decide +kernel
theorem d1_143 : decode method_2_code 143 = .ok (.ireturn, 1) := by decide +kernel
theorem d1_144 : decode method_2_code 144 = .ok (.lload_n 0, 1) := by decide +kernel
theorem d1_145 : decode method_2_code 145 = .ok (.ldc2_w 31, 3) := by decide +kernel
theorem d1_148 : decode method_2_code 148 = .ok (.lcmp, 1) := by decide +kernel
theorem d1_149 : decode method_2_code 149 = .ok (.ifCond .gt 7, 3) := by decide +kernel
theorem d1_152 : decode method_2_code 152 = .ok (.sipush 8192, 3) := by decide +kernel
theorem d1_155 : decode method_2_code 155 = .ok (.ireturn, 1) := by decide +kernel
theorem d1_156 : decode method_2_code 156 = .ok (.lload_n 0, 1) := by decide +kernel
theorem d1_157 : decode method_2_code 157 = .ok (.ldc2_w 33, 3) := by decide +kernel
theorem d1_160 : decode method_2_code 160 = .ok (.lcmp, 1) := by decide +kernel
theorem d1_161 : decode method_2_code 161 = .ok (.ifCond .gt 7, 3) := by decide +kernel
theorem d1_164 : decode method_2_code 164 = .ok (.sipush 16384, 3) := by decide +kernel
theorem d1_167 : decode method_2_code 167 = .ok (.ireturn, 1) := by decide +kernel
theorem d1_168 : decode method_2_code 168 = .ok (.lload_n 0, 1) := by decide +kernel
theorem d1_169 : decode method_2_code 169 = .ok (.ldc2_w 35, 3) := by decide +kernel
theorem d1_172 : decode method_2_code 172 = .ok (.lcmp, 1) := by decide +kernel
theorem d1_173 : decode method_2_code 173 = .ok (.ifCond .gt 6, 3) := by decide +kernel
theorem d1_176 : decode method_2_code 176 = .ok (.ldc 37, 2) := by decide +kernel
theorem d1_178 : decode method_2_code 178 = .ok (.ireturn, 1) := by decide +kernel
theorem d1_179 : decode method_2_code 179 = .ok (.ldc 38, 2) := by decide +kernel
theorem d1_181 : decode method_2_code 181 = .ok (.ireturn, 1) := by decide +kernel
theorem ef_1 (m : MethodId) (x0 : Int64) : entryFrame m #[(.long x0)] 2 = mkF m 0 #[.val (.long x0), .second] [] := by first | (simp [entryFrame, mkF, argsToLocals, Value.category]; done) | rfl
def f1 (x0 : Int64) : Int32 := (if (1 : Int64) < x0 then (if (2 : Int64) < x0 then (if (4 : Int64) < x0 then (if (8 : Int64) < x0 then (if (16 : Int64) < x0 then (if (32 : Int64) < x0 then (if (64 : Int64) < x0 then (if (128 : Int64) < x0 then (if (256 : Int64) < x0 then (if (512 : Int64) < x0 then (if (1024 : Int64) < x0 then (if (2048 : Int64) < x0 then (if (4096 : Int64) < x0 then (if (8192 : Int64) < x0 then (if (16384 : Int64) < x0 then (if (32768 : Int64) < x0 then (65536 : Int32) else (32768 : Int32)) else (16384 : Int32)) else (8192 : Int32)) else (4096 : Int32)) else (2048 : Int32)) else (1024 : Int32)) else (512 : Int32)) else (256 : Int32)) else (128 : Int32)) else (64 : Int32)) else (32 : Int32)) else (16 : Int32)) else (8 : Int32)) else (4 : Int32)) else (2 : Int32)) else (1 : Int32))
set_option maxRecDepth 65536 in
set_option maxHeartbeats 40000000 in
theorem rm1 (l : Launch) (Z : State) (a0 : Array Value) (hw : ∀ d ∈ tables_1, d.before a0 Z = true) (x0 : Int64) (h0 : Heap) (n0 : Nat) :
    Con l Z (⟨"com/example/bones_of_bytecode/bonesofbytecode/DecodedStringsGetPinLaw", "slotsFor", "(J)I"⟩ : MethodName) method_2_code 2 (some .int) [] ({ frames := 0, cells := 0, slots := 0, locals := 0 } : Room) #[(.long x0)] h0 (fun v h L => v = some (.int (f1 x0)) ∧ Fr n0 L ∧ h = h0) := by
  refine Con.of (plainFor_of_name pn_2) ?_
  intro p e s m below meth c s₁ X0 hx hby hml hown hnm hret hlk hZ e0
  refine End.cast ?_ (ef_1 m x0)
  have N0 := Fr.nil n0
  refine k_lloadN X0 hx (q := 1) rfl (hb hby d1_0) rfl ?_
  refine k_lconst X0 hx (v := (1 : Int64)) rfl (q := 2) rfl (hb hby d1_1) ?_
  refine k_lcmp_gt X0 hx (q1 := 8) (q := 6) (by decide) (by decide) rfl (hb hby d1_2) (hb hby d1_3) (fun hc1 => ?_) (fun hc1 => ?_)
  · refine k_lloadN X0 hx (q := 9) rfl (hb hby d1_8) rfl ?_
    refine k_ldc2J X0 hx hZ (v := (2 : Int64)) hown (hw _ (List.mem_of_getElem? (i := 5) rfl)) (q := 12) rfl (hb hby d1_9) ?_
    refine k_lcmp_gt X0 hx (q1 := 18) (q := 16) (by decide) (by decide) rfl (hb hby d1_12) (hb hby d1_13) (fun hc2 => ?_) (fun hc2 => ?_)
    · refine k_lloadN X0 hx (q := 19) rfl (hb hby d1_18) rfl ?_
      refine k_ldc2J X0 hx hZ (v := (4 : Int64)) hown (hw _ (List.mem_of_getElem? (i := 6) rfl)) (q := 22) rfl (hb hby d1_19) ?_
      refine k_lcmp_gt X0 hx (q1 := 28) (q := 26) (by decide) (by decide) rfl (hb hby d1_22) (hb hby d1_23) (fun hc3 => ?_) (fun hc3 => ?_)
      · refine k_lloadN X0 hx (q := 29) rfl (hb hby d1_28) rfl ?_
        refine k_ldc2J X0 hx hZ (v := (8 : Int64)) hown (hw _ (List.mem_of_getElem? (i := 75) rfl)) (q := 32) rfl (hb hby d1_29) ?_
        refine k_lcmp_gt X0 hx (q1 := 39) (q := 36) (by decide) (by decide) rfl (hb hby d1_32) (hb hby d1_33) (fun hc4 => ?_) (fun hc4 => ?_)
        · refine k_lloadN X0 hx (q := 40) rfl (hb hby d1_39) rfl ?_
          refine k_ldc2J X0 hx hZ (v := (16 : Int64)) hown (hw _ (List.mem_of_getElem? (i := 76) rfl)) (q := 43) rfl (hb hby d1_40) ?_
          refine k_lcmp_gt X0 hx (q1 := 50) (q := 47) (by decide) (by decide) rfl (hb hby d1_43) (hb hby d1_44) (fun hc5 => ?_) (fun hc5 => ?_)
          · refine k_lloadN X0 hx (q := 51) rfl (hb hby d1_50) rfl ?_
            refine k_ldc2J X0 hx hZ (v := (32 : Int64)) hown (hw _ (List.mem_of_getElem? (i := 77) rfl)) (q := 54) rfl (hb hby d1_51) ?_
            refine k_lcmp_gt X0 hx (q1 := 61) (q := 58) (by decide) (by decide) rfl (hb hby d1_54) (hb hby d1_55) (fun hc6 => ?_) (fun hc6 => ?_)
            · refine k_lloadN X0 hx (q := 62) rfl (hb hby d1_61) rfl ?_
              refine k_ldc2J X0 hx hZ (v := (64 : Int64)) hown (hw _ (List.mem_of_getElem? (i := 78) rfl)) (q := 65) rfl (hb hby d1_62) ?_
              refine k_lcmp_gt X0 hx (q1 := 72) (q := 69) (by decide) (by decide) rfl (hb hby d1_65) (hb hby d1_66) (fun hc7 => ?_) (fun hc7 => ?_)
              · refine k_lloadN X0 hx (q := 73) rfl (hb hby d1_72) rfl ?_
                refine k_ldc2J X0 hx hZ (v := (128 : Int64)) hown (hw _ (List.mem_of_getElem? (i := 79) rfl)) (q := 76) rfl (hb hby d1_73) ?_
                refine k_lcmp_gt X0 hx (q1 := 84) (q := 80) (by decide) (by decide) rfl (hb hby d1_76) (hb hby d1_77) (fun hc8 => ?_) (fun hc8 => ?_)
                · refine k_lloadN X0 hx (q := 85) rfl (hb hby d1_84) rfl ?_
                  refine k_ldc2J X0 hx hZ (v := (256 : Int64)) hown (hw _ (List.mem_of_getElem? (i := 80) rfl)) (q := 88) rfl (hb hby d1_85) ?_
                  refine k_lcmp_gt X0 hx (q1 := 96) (q := 92) (by decide) (by decide) rfl (hb hby d1_88) (hb hby d1_89) (fun hc9 => ?_) (fun hc9 => ?_)
                  · refine k_lloadN X0 hx (q := 97) rfl (hb hby d1_96) rfl ?_
                    refine k_ldc2J X0 hx hZ (v := (512 : Int64)) hown (hw _ (List.mem_of_getElem? (i := 81) rfl)) (q := 100) rfl (hb hby d1_97) ?_
                    refine k_lcmp_gt X0 hx (q1 := 108) (q := 104) (by decide) (by decide) rfl (hb hby d1_100) (hb hby d1_101) (fun hc10 => ?_) (fun hc10 => ?_)
                    · refine k_lloadN X0 hx (q := 109) rfl (hb hby d1_108) rfl ?_
                      refine k_ldc2J X0 hx hZ (v := (1024 : Int64)) hown (hw _ (List.mem_of_getElem? (i := 82) rfl)) (q := 112) rfl (hb hby d1_109) ?_
                      refine k_lcmp_gt X0 hx (q1 := 120) (q := 116) (by decide) (by decide) rfl (hb hby d1_112) (hb hby d1_113) (fun hc11 => ?_) (fun hc11 => ?_)
                      · refine k_lloadN X0 hx (q := 121) rfl (hb hby d1_120) rfl ?_
                        refine k_ldc2J X0 hx hZ (v := (2048 : Int64)) hown (hw _ (List.mem_of_getElem? (i := 83) rfl)) (q := 124) rfl (hb hby d1_121) ?_
                        refine k_lcmp_gt X0 hx (q1 := 132) (q := 128) (by decide) (by decide) rfl (hb hby d1_124) (hb hby d1_125) (fun hc12 => ?_) (fun hc12 => ?_)
                        · refine k_lloadN X0 hx (q := 133) rfl (hb hby d1_132) rfl ?_
                          refine k_ldc2J X0 hx hZ (v := (4096 : Int64)) hown (hw _ (List.mem_of_getElem? (i := 84) rfl)) (q := 136) rfl (hb hby d1_133) ?_
                          refine k_lcmp_gt X0 hx (q1 := 144) (q := 140) (by decide) (by decide) rfl (hb hby d1_136) (hb hby d1_137) (fun hc13 => ?_) (fun hc13 => ?_)
                          · refine k_lloadN X0 hx (q := 145) rfl (hb hby d1_144) rfl ?_
                            refine k_ldc2J X0 hx hZ (v := (8192 : Int64)) hown (hw _ (List.mem_of_getElem? (i := 85) rfl)) (q := 148) rfl (hb hby d1_145) ?_
                            refine k_lcmp_gt X0 hx (q1 := 156) (q := 152) (by decide) (by decide) rfl (hb hby d1_148) (hb hby d1_149) (fun hc14 => ?_) (fun hc14 => ?_)
                            · refine k_lloadN X0 hx (q := 157) rfl (hb hby d1_156) rfl ?_
                              refine k_ldc2J X0 hx hZ (v := (16384 : Int64)) hown (hw _ (List.mem_of_getElem? (i := 86) rfl)) (q := 160) rfl (hb hby d1_157) ?_
                              refine k_lcmp_gt X0 hx (q1 := 168) (q := 164) (by decide) (by decide) rfl (hb hby d1_160) (hb hby d1_161) (fun hc15 => ?_) (fun hc15 => ?_)
                              · refine k_lloadN X0 hx (q := 169) rfl (hb hby d1_168) rfl ?_
                                refine k_ldc2J X0 hx hZ (v := (32768 : Int64)) hown (hw _ (List.mem_of_getElem? (i := 87) rfl)) (q := 172) rfl (hb hby d1_169) ?_
                                refine k_lcmp_gt X0 hx (q1 := 179) (q := 176) (by decide) (by decide) rfl (hb hby d1_172) (hb hby d1_173) (fun hc16 => ?_) (fun hc16 => ?_)
                                · refine k_ldcI X0 hx hZ (v := (65536 : Int32)) hown (hw _ (List.mem_of_getElem? (i := 88) rfl)) (q := 181) rfl (hb hby d1_179) ?_
                                  exact k_retI X0 hx hlk (by decide) (by decide) hret (hb hby d1_181) ⟨retI_eq (((((((((((((((((rfl : f1 x0 = _).trans (if_pos hc1)).trans (if_pos hc2)).trans (if_pos hc3)).trans (if_pos hc4)).trans (if_pos hc5)).trans (if_pos hc6)).trans (if_pos hc7)).trans (if_pos hc8)).trans (if_pos hc9)).trans (if_pos hc10)).trans (if_pos hc11)).trans (if_pos hc12)).trans (if_pos hc13)).trans (if_pos hc14)).trans (if_pos hc15)).trans (if_pos hc16)), N0, e0⟩
                                · refine k_ldcI X0 hx hZ (v := (32768 : Int32)) hown (hw _ (List.mem_of_getElem? (i := 89) rfl)) (q := 178) rfl (hb hby d1_176) ?_
                                  exact k_retI X0 hx hlk (by decide) (by decide) hret (hb hby d1_178) ⟨retI_eq (((((((((((((((((rfl : f1 x0 = _).trans (if_pos hc1)).trans (if_pos hc2)).trans (if_pos hc3)).trans (if_pos hc4)).trans (if_pos hc5)).trans (if_pos hc6)).trans (if_pos hc7)).trans (if_pos hc8)).trans (if_pos hc9)).trans (if_pos hc10)).trans (if_pos hc11)).trans (if_pos hc12)).trans (if_pos hc13)).trans (if_pos hc14)).trans (if_pos hc15)).trans (if_neg hc16)), N0, e0⟩
                              · refine k_sipush X0 hx (v := (16384 : Int32)) rfl (q := 167) rfl (hb hby d1_164) ?_
                                exact k_retI X0 hx hlk (by decide) (by decide) hret (hb hby d1_167) ⟨retI_eq ((((((((((((((((rfl : f1 x0 = _).trans (if_pos hc1)).trans (if_pos hc2)).trans (if_pos hc3)).trans (if_pos hc4)).trans (if_pos hc5)).trans (if_pos hc6)).trans (if_pos hc7)).trans (if_pos hc8)).trans (if_pos hc9)).trans (if_pos hc10)).trans (if_pos hc11)).trans (if_pos hc12)).trans (if_pos hc13)).trans (if_pos hc14)).trans (if_neg hc15)), N0, e0⟩
                            · refine k_sipush X0 hx (v := (8192 : Int32)) rfl (q := 155) rfl (hb hby d1_152) ?_
                              exact k_retI X0 hx hlk (by decide) (by decide) hret (hb hby d1_155) ⟨retI_eq (((((((((((((((rfl : f1 x0 = _).trans (if_pos hc1)).trans (if_pos hc2)).trans (if_pos hc3)).trans (if_pos hc4)).trans (if_pos hc5)).trans (if_pos hc6)).trans (if_pos hc7)).trans (if_pos hc8)).trans (if_pos hc9)).trans (if_pos hc10)).trans (if_pos hc11)).trans (if_pos hc12)).trans (if_pos hc13)).trans (if_neg hc14)), N0, e0⟩
                          · refine k_sipush X0 hx (v := (4096 : Int32)) rfl (q := 143) rfl (hb hby d1_140) ?_
                            exact k_retI X0 hx hlk (by decide) (by decide) hret (hb hby d1_143) ⟨retI_eq ((((((((((((((rfl : f1 x0 = _).trans (if_pos hc1)).trans (if_pos hc2)).trans (if_pos hc3)).trans (if_pos hc4)).trans (if_pos hc5)).trans (if_pos hc6)).trans (if_pos hc7)).trans (if_pos hc8)).trans (if_pos hc9)).trans (if_pos hc10)).trans (if_pos hc11)).trans (if_pos hc12)).trans (if_neg hc13)), N0, e0⟩
                        · refine k_sipush X0 hx (v := (2048 : Int32)) rfl (q := 131) rfl (hb hby d1_128) ?_
                          exact k_retI X0 hx hlk (by decide) (by decide) hret (hb hby d1_131) ⟨retI_eq (((((((((((((rfl : f1 x0 = _).trans (if_pos hc1)).trans (if_pos hc2)).trans (if_pos hc3)).trans (if_pos hc4)).trans (if_pos hc5)).trans (if_pos hc6)).trans (if_pos hc7)).trans (if_pos hc8)).trans (if_pos hc9)).trans (if_pos hc10)).trans (if_pos hc11)).trans (if_neg hc12)), N0, e0⟩
                      · refine k_sipush X0 hx (v := (1024 : Int32)) rfl (q := 119) rfl (hb hby d1_116) ?_
                        exact k_retI X0 hx hlk (by decide) (by decide) hret (hb hby d1_119) ⟨retI_eq ((((((((((((rfl : f1 x0 = _).trans (if_pos hc1)).trans (if_pos hc2)).trans (if_pos hc3)).trans (if_pos hc4)).trans (if_pos hc5)).trans (if_pos hc6)).trans (if_pos hc7)).trans (if_pos hc8)).trans (if_pos hc9)).trans (if_pos hc10)).trans (if_neg hc11)), N0, e0⟩
                    · refine k_sipush X0 hx (v := (512 : Int32)) rfl (q := 107) rfl (hb hby d1_104) ?_
                      exact k_retI X0 hx hlk (by decide) (by decide) hret (hb hby d1_107) ⟨retI_eq (((((((((((rfl : f1 x0 = _).trans (if_pos hc1)).trans (if_pos hc2)).trans (if_pos hc3)).trans (if_pos hc4)).trans (if_pos hc5)).trans (if_pos hc6)).trans (if_pos hc7)).trans (if_pos hc8)).trans (if_pos hc9)).trans (if_neg hc10)), N0, e0⟩
                  · refine k_sipush X0 hx (v := (256 : Int32)) rfl (q := 95) rfl (hb hby d1_92) ?_
                    exact k_retI X0 hx hlk (by decide) (by decide) hret (hb hby d1_95) ⟨retI_eq ((((((((((rfl : f1 x0 = _).trans (if_pos hc1)).trans (if_pos hc2)).trans (if_pos hc3)).trans (if_pos hc4)).trans (if_pos hc5)).trans (if_pos hc6)).trans (if_pos hc7)).trans (if_pos hc8)).trans (if_neg hc9)), N0, e0⟩
                · refine k_sipush X0 hx (v := (128 : Int32)) rfl (q := 83) rfl (hb hby d1_80) ?_
                  exact k_retI X0 hx hlk (by decide) (by decide) hret (hb hby d1_83) ⟨retI_eq (((((((((rfl : f1 x0 = _).trans (if_pos hc1)).trans (if_pos hc2)).trans (if_pos hc3)).trans (if_pos hc4)).trans (if_pos hc5)).trans (if_pos hc6)).trans (if_pos hc7)).trans (if_neg hc8)), N0, e0⟩
              · refine k_bipush X0 hx (v := (64 : Int32)) rfl (q := 71) rfl (hb hby d1_69) ?_
                exact k_retI X0 hx hlk (by decide) (by decide) hret (hb hby d1_71) ⟨retI_eq ((((((((rfl : f1 x0 = _).trans (if_pos hc1)).trans (if_pos hc2)).trans (if_pos hc3)).trans (if_pos hc4)).trans (if_pos hc5)).trans (if_pos hc6)).trans (if_neg hc7)), N0, e0⟩
            · refine k_bipush X0 hx (v := (32 : Int32)) rfl (q := 60) rfl (hb hby d1_58) ?_
              exact k_retI X0 hx hlk (by decide) (by decide) hret (hb hby d1_60) ⟨retI_eq (((((((rfl : f1 x0 = _).trans (if_pos hc1)).trans (if_pos hc2)).trans (if_pos hc3)).trans (if_pos hc4)).trans (if_pos hc5)).trans (if_neg hc6)), N0, e0⟩
          · refine k_bipush X0 hx (v := (16 : Int32)) rfl (q := 49) rfl (hb hby d1_47) ?_
            exact k_retI X0 hx hlk (by decide) (by decide) hret (hb hby d1_49) ⟨retI_eq ((((((rfl : f1 x0 = _).trans (if_pos hc1)).trans (if_pos hc2)).trans (if_pos hc3)).trans (if_pos hc4)).trans (if_neg hc5)), N0, e0⟩
        · refine k_bipush X0 hx (v := (8 : Int32)) rfl (q := 38) rfl (hb hby d1_36) ?_
          exact k_retI X0 hx hlk (by decide) (by decide) hret (hb hby d1_38) ⟨retI_eq (((((rfl : f1 x0 = _).trans (if_pos hc1)).trans (if_pos hc2)).trans (if_pos hc3)).trans (if_neg hc4)), N0, e0⟩
      · refine k_iconst X0 hx (v := (4 : Int32)) rfl (q := 27) rfl (hb hby d1_26) ?_
        exact k_retI X0 hx hlk (by decide) (by decide) hret (hb hby d1_27) ⟨retI_eq ((((rfl : f1 x0 = _).trans (if_pos hc1)).trans (if_pos hc2)).trans (if_neg hc3)), N0, e0⟩
    · refine k_iconst X0 hx (v := (2 : Int32)) rfl (q := 17) rfl (hb hby d1_16) ?_
      exact k_retI X0 hx hlk (by decide) (by decide) hret (hb hby d1_17) ⟨retI_eq (((rfl : f1 x0 = _).trans (if_pos hc1)).trans (if_neg hc2)), N0, e0⟩
  · refine k_iconst X0 hx (v := (1 : Int32)) rfl (q := 7) rfl (hb hby d1_6) ?_
    exact k_retI X0 hx hlk (by decide) (by decide) hret (hb hby d1_7) ⟨retI_eq ((rfl : f1 x0 = _).trans (if_neg hc1)), N0, e0⟩
theorem own_slots (c : Int64) (i : Nat) (hi : i ≤ 16) (h1 : i = 0 ∨ (2 : Int) ^ (i - 1) < c.toInt) (h2 : i = 16 ∨ ¬ (2 : Int) ^ i < c.toInt) : f1 c = (2 ^ i).toInt32 := by
  have : i = 0 ∨ i = 1 ∨ i = 2 ∨ i = 3 ∨ i = 4 ∨ i = 5 ∨ i = 6 ∨ i = 7 ∨ i = 8 ∨ i = 9 ∨ i = 10 ∨ i = 11 ∨ i = 12 ∨ i = 13 ∨ i = 14 ∨ i = 15 ∨ i = 16 := by omega
  rcases this with e | e | e | e | e | e | e | e | e | e | e | e | e | e | e | e | e
  · subst e
    have h0 : ¬ (1 : Int64) < c := by rw [Int64.lt_iff_toInt_lt, show (1 : Int64).toInt = 1 from by decide]; omega
    unfold f1
    rw [if_neg h0] <;> decide
  · subst e
    have h0 : (1 : Int64) < c := by rw [Int64.lt_iff_toInt_lt, show (1 : Int64).toInt = 1 from by decide]; omega
    have h1 : ¬ (2 : Int64) < c := by rw [Int64.lt_iff_toInt_lt, show (2 : Int64).toInt = 2 from by decide]; omega
    unfold f1
    rw [if_pos h0, if_neg h1] <;> decide
  · subst e
    have h0 : (1 : Int64) < c := by rw [Int64.lt_iff_toInt_lt, show (1 : Int64).toInt = 1 from by decide]; omega
    have h1 : (2 : Int64) < c := by rw [Int64.lt_iff_toInt_lt, show (2 : Int64).toInt = 2 from by decide]; omega
    have h2 : ¬ (4 : Int64) < c := by rw [Int64.lt_iff_toInt_lt, show (4 : Int64).toInt = 4 from by decide]; omega
    unfold f1
    rw [if_pos h0, if_pos h1, if_neg h2] <;> decide
  · subst e
    have h0 : (1 : Int64) < c := by rw [Int64.lt_iff_toInt_lt, show (1 : Int64).toInt = 1 from by decide]; omega
    have h1 : (2 : Int64) < c := by rw [Int64.lt_iff_toInt_lt, show (2 : Int64).toInt = 2 from by decide]; omega
    have h2 : (4 : Int64) < c := by rw [Int64.lt_iff_toInt_lt, show (4 : Int64).toInt = 4 from by decide]; omega
    have h3 : ¬ (8 : Int64) < c := by rw [Int64.lt_iff_toInt_lt, show (8 : Int64).toInt = 8 from by decide]; omega
    unfold f1
    rw [if_pos h0, if_pos h1, if_pos h2, if_neg h3] <;> decide
  · subst e
    have h0 : (1 : Int64) < c := by rw [Int64.lt_iff_toInt_lt, show (1 : Int64).toInt = 1 from by decide]; omega
    have h1 : (2 : Int64) < c := by rw [Int64.lt_iff_toInt_lt, show (2 : Int64).toInt = 2 from by decide]; omega
    have h2 : (4 : Int64) < c := by rw [Int64.lt_iff_toInt_lt, show (4 : Int64).toInt = 4 from by decide]; omega
    have h3 : (8 : Int64) < c := by rw [Int64.lt_iff_toInt_lt, show (8 : Int64).toInt = 8 from by decide]; omega
    have h4 : ¬ (16 : Int64) < c := by rw [Int64.lt_iff_toInt_lt, show (16 : Int64).toInt = 16 from by decide]; omega
    unfold f1
    rw [if_pos h0, if_pos h1, if_pos h2, if_pos h3, if_neg h4] <;> decide
  · subst e
    have h0 : (1 : Int64) < c := by rw [Int64.lt_iff_toInt_lt, show (1 : Int64).toInt = 1 from by decide]; omega
    have h1 : (2 : Int64) < c := by rw [Int64.lt_iff_toInt_lt, show (2 : Int64).toInt = 2 from by decide]; omega
    have h2 : (4 : Int64) < c := by rw [Int64.lt_iff_toInt_lt, show (4 : Int64).toInt = 4 from by decide]; omega
    have h3 : (8 : Int64) < c := by rw [Int64.lt_iff_toInt_lt, show (8 : Int64).toInt = 8 from by decide]; omega
    have h4 : (16 : Int64) < c := by rw [Int64.lt_iff_toInt_lt, show (16 : Int64).toInt = 16 from by decide]; omega
    have h5 : ¬ (32 : Int64) < c := by rw [Int64.lt_iff_toInt_lt, show (32 : Int64).toInt = 32 from by decide]; omega
    unfold f1
    rw [if_pos h0, if_pos h1, if_pos h2, if_pos h3, if_pos h4, if_neg h5] <;> decide
  · subst e
    have h0 : (1 : Int64) < c := by rw [Int64.lt_iff_toInt_lt, show (1 : Int64).toInt = 1 from by decide]; omega
    have h1 : (2 : Int64) < c := by rw [Int64.lt_iff_toInt_lt, show (2 : Int64).toInt = 2 from by decide]; omega
    have h2 : (4 : Int64) < c := by rw [Int64.lt_iff_toInt_lt, show (4 : Int64).toInt = 4 from by decide]; omega
    have h3 : (8 : Int64) < c := by rw [Int64.lt_iff_toInt_lt, show (8 : Int64).toInt = 8 from by decide]; omega
    have h4 : (16 : Int64) < c := by rw [Int64.lt_iff_toInt_lt, show (16 : Int64).toInt = 16 from by decide]; omega
    have h5 : (32 : Int64) < c := by rw [Int64.lt_iff_toInt_lt, show (32 : Int64).toInt = 32 from by decide]; omega
    have h6 : ¬ (64 : Int64) < c := by rw [Int64.lt_iff_toInt_lt, show (64 : Int64).toInt = 64 from by decide]; omega
    unfold f1
    rw [if_pos h0, if_pos h1, if_pos h2, if_pos h3, if_pos h4, if_pos h5, if_neg h6] <;> decide
  · subst e
    have h0 : (1 : Int64) < c := by rw [Int64.lt_iff_toInt_lt, show (1 : Int64).toInt = 1 from by decide]; omega
    have h1 : (2 : Int64) < c := by rw [Int64.lt_iff_toInt_lt, show (2 : Int64).toInt = 2 from by decide]; omega
    have h2 : (4 : Int64) < c := by rw [Int64.lt_iff_toInt_lt, show (4 : Int64).toInt = 4 from by decide]; omega
    have h3 : (8 : Int64) < c := by rw [Int64.lt_iff_toInt_lt, show (8 : Int64).toInt = 8 from by decide]; omega
    have h4 : (16 : Int64) < c := by rw [Int64.lt_iff_toInt_lt, show (16 : Int64).toInt = 16 from by decide]; omega
    have h5 : (32 : Int64) < c := by rw [Int64.lt_iff_toInt_lt, show (32 : Int64).toInt = 32 from by decide]; omega
    have h6 : (64 : Int64) < c := by rw [Int64.lt_iff_toInt_lt, show (64 : Int64).toInt = 64 from by decide]; omega
    have h7 : ¬ (128 : Int64) < c := by rw [Int64.lt_iff_toInt_lt, show (128 : Int64).toInt = 128 from by decide]; omega
    unfold f1
    rw [if_pos h0, if_pos h1, if_pos h2, if_pos h3, if_pos h4, if_pos h5, if_pos h6, if_neg h7] <;> decide
  · subst e
    have h0 : (1 : Int64) < c := by rw [Int64.lt_iff_toInt_lt, show (1 : Int64).toInt = 1 from by decide]; omega
    have h1 : (2 : Int64) < c := by rw [Int64.lt_iff_toInt_lt, show (2 : Int64).toInt = 2 from by decide]; omega
    have h2 : (4 : Int64) < c := by rw [Int64.lt_iff_toInt_lt, show (4 : Int64).toInt = 4 from by decide]; omega
    have h3 : (8 : Int64) < c := by rw [Int64.lt_iff_toInt_lt, show (8 : Int64).toInt = 8 from by decide]; omega
    have h4 : (16 : Int64) < c := by rw [Int64.lt_iff_toInt_lt, show (16 : Int64).toInt = 16 from by decide]; omega
    have h5 : (32 : Int64) < c := by rw [Int64.lt_iff_toInt_lt, show (32 : Int64).toInt = 32 from by decide]; omega
    have h6 : (64 : Int64) < c := by rw [Int64.lt_iff_toInt_lt, show (64 : Int64).toInt = 64 from by decide]; omega
    have h7 : (128 : Int64) < c := by rw [Int64.lt_iff_toInt_lt, show (128 : Int64).toInt = 128 from by decide]; omega
    have h8 : ¬ (256 : Int64) < c := by rw [Int64.lt_iff_toInt_lt, show (256 : Int64).toInt = 256 from by decide]; omega
    unfold f1
    rw [if_pos h0, if_pos h1, if_pos h2, if_pos h3, if_pos h4, if_pos h5, if_pos h6, if_pos h7, if_neg h8] <;> decide
  · subst e
    have h0 : (1 : Int64) < c := by rw [Int64.lt_iff_toInt_lt, show (1 : Int64).toInt = 1 from by decide]; omega
    have h1 : (2 : Int64) < c := by rw [Int64.lt_iff_toInt_lt, show (2 : Int64).toInt = 2 from by decide]; omega
    have h2 : (4 : Int64) < c := by rw [Int64.lt_iff_toInt_lt, show (4 : Int64).toInt = 4 from by decide]; omega
    have h3 : (8 : Int64) < c := by rw [Int64.lt_iff_toInt_lt, show (8 : Int64).toInt = 8 from by decide]; omega
    have h4 : (16 : Int64) < c := by rw [Int64.lt_iff_toInt_lt, show (16 : Int64).toInt = 16 from by decide]; omega
    have h5 : (32 : Int64) < c := by rw [Int64.lt_iff_toInt_lt, show (32 : Int64).toInt = 32 from by decide]; omega
    have h6 : (64 : Int64) < c := by rw [Int64.lt_iff_toInt_lt, show (64 : Int64).toInt = 64 from by decide]; omega
    have h7 : (128 : Int64) < c := by rw [Int64.lt_iff_toInt_lt, show (128 : Int64).toInt = 128 from by decide]; omega
    have h8 : (256 : Int64) < c := by rw [Int64.lt_iff_toInt_lt, show (256 : Int64).toInt = 256 from by decide]; omega
    have h9 : ¬ (512 : Int64) < c := by rw [Int64.lt_iff_toInt_lt, show (512 : Int64).toInt = 512 from by decide]; omega
    unfold f1
    rw [if_pos h0, if_pos h1, if_pos h2, if_pos h3, if_pos h4, if_pos h5, if_pos h6, if_pos h7, if_pos h8, if_neg h9] <;> decide
  · subst e
    have h0 : (1 : Int64) < c := by rw [Int64.lt_iff_toInt_lt, show (1 : Int64).toInt = 1 from by decide]; omega
    have h1 : (2 : Int64) < c := by rw [Int64.lt_iff_toInt_lt, show (2 : Int64).toInt = 2 from by decide]; omega
    have h2 : (4 : Int64) < c := by rw [Int64.lt_iff_toInt_lt, show (4 : Int64).toInt = 4 from by decide]; omega
    have h3 : (8 : Int64) < c := by rw [Int64.lt_iff_toInt_lt, show (8 : Int64).toInt = 8 from by decide]; omega
    have h4 : (16 : Int64) < c := by rw [Int64.lt_iff_toInt_lt, show (16 : Int64).toInt = 16 from by decide]; omega
    have h5 : (32 : Int64) < c := by rw [Int64.lt_iff_toInt_lt, show (32 : Int64).toInt = 32 from by decide]; omega
    have h6 : (64 : Int64) < c := by rw [Int64.lt_iff_toInt_lt, show (64 : Int64).toInt = 64 from by decide]; omega
    have h7 : (128 : Int64) < c := by rw [Int64.lt_iff_toInt_lt, show (128 : Int64).toInt = 128 from by decide]; omega
    have h8 : (256 : Int64) < c := by rw [Int64.lt_iff_toInt_lt, show (256 : Int64).toInt = 256 from by decide]; omega
    have h9 : (512 : Int64) < c := by rw [Int64.lt_iff_toInt_lt, show (512 : Int64).toInt = 512 from by decide]; omega
    have h10 : ¬ (1024 : Int64) < c := by rw [Int64.lt_iff_toInt_lt, show (1024 : Int64).toInt = 1024 from by decide]; omega
    unfold f1
    rw [if_pos h0, if_pos h1, if_pos h2, if_pos h3, if_pos h4, if_pos h5, if_pos h6, if_pos h7, if_pos h8, if_pos h9, if_neg h10] <;> decide
  · subst e
    have h0 : (1 : Int64) < c := by rw [Int64.lt_iff_toInt_lt, show (1 : Int64).toInt = 1 from by decide]; omega
    have h1 : (2 : Int64) < c := by rw [Int64.lt_iff_toInt_lt, show (2 : Int64).toInt = 2 from by decide]; omega
    have h2 : (4 : Int64) < c := by rw [Int64.lt_iff_toInt_lt, show (4 : Int64).toInt = 4 from by decide]; omega
    have h3 : (8 : Int64) < c := by rw [Int64.lt_iff_toInt_lt, show (8 : Int64).toInt = 8 from by decide]; omega
    have h4 : (16 : Int64) < c := by rw [Int64.lt_iff_toInt_lt, show (16 : Int64).toInt = 16 from by decide]; omega
    have h5 : (32 : Int64) < c := by rw [Int64.lt_iff_toInt_lt, show (32 : Int64).toInt = 32 from by decide]; omega
    have h6 : (64 : Int64) < c := by rw [Int64.lt_iff_toInt_lt, show (64 : Int64).toInt = 64 from by decide]; omega
    have h7 : (128 : Int64) < c := by rw [Int64.lt_iff_toInt_lt, show (128 : Int64).toInt = 128 from by decide]; omega
    have h8 : (256 : Int64) < c := by rw [Int64.lt_iff_toInt_lt, show (256 : Int64).toInt = 256 from by decide]; omega
    have h9 : (512 : Int64) < c := by rw [Int64.lt_iff_toInt_lt, show (512 : Int64).toInt = 512 from by decide]; omega
    have h10 : (1024 : Int64) < c := by rw [Int64.lt_iff_toInt_lt, show (1024 : Int64).toInt = 1024 from by decide]; omega
    have h11 : ¬ (2048 : Int64) < c := by rw [Int64.lt_iff_toInt_lt, show (2048 : Int64).toInt = 2048 from by decide]; omega
    unfold f1
    rw [if_pos h0, if_pos h1, if_pos h2, if_pos h3, if_pos h4, if_pos h5, if_pos h6, if_pos h7, if_pos h8, if_pos h9, if_pos h10, if_neg h11] <;> decide
  · subst e
    have h0 : (1 : Int64) < c := by rw [Int64.lt_iff_toInt_lt, show (1 : Int64).toInt = 1 from by decide]; omega
    have h1 : (2 : Int64) < c := by rw [Int64.lt_iff_toInt_lt, show (2 : Int64).toInt = 2 from by decide]; omega
    have h2 : (4 : Int64) < c := by rw [Int64.lt_iff_toInt_lt, show (4 : Int64).toInt = 4 from by decide]; omega
    have h3 : (8 : Int64) < c := by rw [Int64.lt_iff_toInt_lt, show (8 : Int64).toInt = 8 from by decide]; omega
    have h4 : (16 : Int64) < c := by rw [Int64.lt_iff_toInt_lt, show (16 : Int64).toInt = 16 from by decide]; omega
    have h5 : (32 : Int64) < c := by rw [Int64.lt_iff_toInt_lt, show (32 : Int64).toInt = 32 from by decide]; omega
    have h6 : (64 : Int64) < c := by rw [Int64.lt_iff_toInt_lt, show (64 : Int64).toInt = 64 from by decide]; omega
    have h7 : (128 : Int64) < c := by rw [Int64.lt_iff_toInt_lt, show (128 : Int64).toInt = 128 from by decide]; omega
    have h8 : (256 : Int64) < c := by rw [Int64.lt_iff_toInt_lt, show (256 : Int64).toInt = 256 from by decide]; omega
    have h9 : (512 : Int64) < c := by rw [Int64.lt_iff_toInt_lt, show (512 : Int64).toInt = 512 from by decide]; omega
    have h10 : (1024 : Int64) < c := by rw [Int64.lt_iff_toInt_lt, show (1024 : Int64).toInt = 1024 from by decide]; omega
    have h11 : (2048 : Int64) < c := by rw [Int64.lt_iff_toInt_lt, show (2048 : Int64).toInt = 2048 from by decide]; omega
    have h12 : ¬ (4096 : Int64) < c := by rw [Int64.lt_iff_toInt_lt, show (4096 : Int64).toInt = 4096 from by decide]; omega
    unfold f1
    rw [if_pos h0, if_pos h1, if_pos h2, if_pos h3, if_pos h4, if_pos h5, if_pos h6, if_pos h7, if_pos h8, if_pos h9, if_pos h10, if_pos h11, if_neg h12] <;> decide
  · subst e
    have h0 : (1 : Int64) < c := by rw [Int64.lt_iff_toInt_lt, show (1 : Int64).toInt = 1 from by decide]; omega
    have h1 : (2 : Int64) < c := by rw [Int64.lt_iff_toInt_lt, show (2 : Int64).toInt = 2 from by decide]; omega
    have h2 : (4 : Int64) < c := by rw [Int64.lt_iff_toInt_lt, show (4 : Int64).toInt = 4 from by decide]; omega
    have h3 : (8 : Int64) < c := by rw [Int64.lt_iff_toInt_lt, show (8 : Int64).toInt = 8 from by decide]; omega
    have h4 : (16 : Int64) < c := by rw [Int64.lt_iff_toInt_lt, show (16 : Int64).toInt = 16 from by decide]; omega
    have h5 : (32 : Int64) < c := by rw [Int64.lt_iff_toInt_lt, show (32 : Int64).toInt = 32 from by decide]; omega
    have h6 : (64 : Int64) < c := by rw [Int64.lt_iff_toInt_lt, show (64 : Int64).toInt = 64 from by decide]; omega
    have h7 : (128 : Int64) < c := by rw [Int64.lt_iff_toInt_lt, show (128 : Int64).toInt = 128 from by decide]; omega
    have h8 : (256 : Int64) < c := by rw [Int64.lt_iff_toInt_lt, show (256 : Int64).toInt = 256 from by decide]; omega
    have h9 : (512 : Int64) < c := by rw [Int64.lt_iff_toInt_lt, show (512 : Int64).toInt = 512 from by decide]; omega
    have h10 : (1024 : Int64) < c := by rw [Int64.lt_iff_toInt_lt, show (1024 : Int64).toInt = 1024 from by decide]; omega
    have h11 : (2048 : Int64) < c := by rw [Int64.lt_iff_toInt_lt, show (2048 : Int64).toInt = 2048 from by decide]; omega
    have h12 : (4096 : Int64) < c := by rw [Int64.lt_iff_toInt_lt, show (4096 : Int64).toInt = 4096 from by decide]; omega
    have h13 : ¬ (8192 : Int64) < c := by rw [Int64.lt_iff_toInt_lt, show (8192 : Int64).toInt = 8192 from by decide]; omega
    unfold f1
    rw [if_pos h0, if_pos h1, if_pos h2, if_pos h3, if_pos h4, if_pos h5, if_pos h6, if_pos h7, if_pos h8, if_pos h9, if_pos h10, if_pos h11, if_pos h12, if_neg h13] <;> decide
  · subst e
    have h0 : (1 : Int64) < c := by rw [Int64.lt_iff_toInt_lt, show (1 : Int64).toInt = 1 from by decide]; omega
    have h1 : (2 : Int64) < c := by rw [Int64.lt_iff_toInt_lt, show (2 : Int64).toInt = 2 from by decide]; omega
    have h2 : (4 : Int64) < c := by rw [Int64.lt_iff_toInt_lt, show (4 : Int64).toInt = 4 from by decide]; omega
    have h3 : (8 : Int64) < c := by rw [Int64.lt_iff_toInt_lt, show (8 : Int64).toInt = 8 from by decide]; omega
    have h4 : (16 : Int64) < c := by rw [Int64.lt_iff_toInt_lt, show (16 : Int64).toInt = 16 from by decide]; omega
    have h5 : (32 : Int64) < c := by rw [Int64.lt_iff_toInt_lt, show (32 : Int64).toInt = 32 from by decide]; omega
    have h6 : (64 : Int64) < c := by rw [Int64.lt_iff_toInt_lt, show (64 : Int64).toInt = 64 from by decide]; omega
    have h7 : (128 : Int64) < c := by rw [Int64.lt_iff_toInt_lt, show (128 : Int64).toInt = 128 from by decide]; omega
    have h8 : (256 : Int64) < c := by rw [Int64.lt_iff_toInt_lt, show (256 : Int64).toInt = 256 from by decide]; omega
    have h9 : (512 : Int64) < c := by rw [Int64.lt_iff_toInt_lt, show (512 : Int64).toInt = 512 from by decide]; omega
    have h10 : (1024 : Int64) < c := by rw [Int64.lt_iff_toInt_lt, show (1024 : Int64).toInt = 1024 from by decide]; omega
    have h11 : (2048 : Int64) < c := by rw [Int64.lt_iff_toInt_lt, show (2048 : Int64).toInt = 2048 from by decide]; omega
    have h12 : (4096 : Int64) < c := by rw [Int64.lt_iff_toInt_lt, show (4096 : Int64).toInt = 4096 from by decide]; omega
    have h13 : (8192 : Int64) < c := by rw [Int64.lt_iff_toInt_lt, show (8192 : Int64).toInt = 8192 from by decide]; omega
    have h14 : ¬ (16384 : Int64) < c := by rw [Int64.lt_iff_toInt_lt, show (16384 : Int64).toInt = 16384 from by decide]; omega
    unfold f1
    rw [if_pos h0, if_pos h1, if_pos h2, if_pos h3, if_pos h4, if_pos h5, if_pos h6, if_pos h7, if_pos h8, if_pos h9, if_pos h10, if_pos h11, if_pos h12, if_pos h13, if_neg h14] <;> decide
  · subst e
    have h0 : (1 : Int64) < c := by rw [Int64.lt_iff_toInt_lt, show (1 : Int64).toInt = 1 from by decide]; omega
    have h1 : (2 : Int64) < c := by rw [Int64.lt_iff_toInt_lt, show (2 : Int64).toInt = 2 from by decide]; omega
    have h2 : (4 : Int64) < c := by rw [Int64.lt_iff_toInt_lt, show (4 : Int64).toInt = 4 from by decide]; omega
    have h3 : (8 : Int64) < c := by rw [Int64.lt_iff_toInt_lt, show (8 : Int64).toInt = 8 from by decide]; omega
    have h4 : (16 : Int64) < c := by rw [Int64.lt_iff_toInt_lt, show (16 : Int64).toInt = 16 from by decide]; omega
    have h5 : (32 : Int64) < c := by rw [Int64.lt_iff_toInt_lt, show (32 : Int64).toInt = 32 from by decide]; omega
    have h6 : (64 : Int64) < c := by rw [Int64.lt_iff_toInt_lt, show (64 : Int64).toInt = 64 from by decide]; omega
    have h7 : (128 : Int64) < c := by rw [Int64.lt_iff_toInt_lt, show (128 : Int64).toInt = 128 from by decide]; omega
    have h8 : (256 : Int64) < c := by rw [Int64.lt_iff_toInt_lt, show (256 : Int64).toInt = 256 from by decide]; omega
    have h9 : (512 : Int64) < c := by rw [Int64.lt_iff_toInt_lt, show (512 : Int64).toInt = 512 from by decide]; omega
    have h10 : (1024 : Int64) < c := by rw [Int64.lt_iff_toInt_lt, show (1024 : Int64).toInt = 1024 from by decide]; omega
    have h11 : (2048 : Int64) < c := by rw [Int64.lt_iff_toInt_lt, show (2048 : Int64).toInt = 2048 from by decide]; omega
    have h12 : (4096 : Int64) < c := by rw [Int64.lt_iff_toInt_lt, show (4096 : Int64).toInt = 4096 from by decide]; omega
    have h13 : (8192 : Int64) < c := by rw [Int64.lt_iff_toInt_lt, show (8192 : Int64).toInt = 8192 from by decide]; omega
    have h14 : (16384 : Int64) < c := by rw [Int64.lt_iff_toInt_lt, show (16384 : Int64).toInt = 16384 from by decide]; omega
    have h15 : ¬ (32768 : Int64) < c := by rw [Int64.lt_iff_toInt_lt, show (32768 : Int64).toInt = 32768 from by decide]; omega
    unfold f1
    rw [if_pos h0, if_pos h1, if_pos h2, if_pos h3, if_pos h4, if_pos h5, if_pos h6, if_pos h7, if_pos h8, if_pos h9, if_pos h10, if_pos h11, if_pos h12, if_pos h13, if_pos h14, if_neg h15] <;> decide
  · subst e
    have h0 : (1 : Int64) < c := by rw [Int64.lt_iff_toInt_lt, show (1 : Int64).toInt = 1 from by decide]; omega
    have h1 : (2 : Int64) < c := by rw [Int64.lt_iff_toInt_lt, show (2 : Int64).toInt = 2 from by decide]; omega
    have h2 : (4 : Int64) < c := by rw [Int64.lt_iff_toInt_lt, show (4 : Int64).toInt = 4 from by decide]; omega
    have h3 : (8 : Int64) < c := by rw [Int64.lt_iff_toInt_lt, show (8 : Int64).toInt = 8 from by decide]; omega
    have h4 : (16 : Int64) < c := by rw [Int64.lt_iff_toInt_lt, show (16 : Int64).toInt = 16 from by decide]; omega
    have h5 : (32 : Int64) < c := by rw [Int64.lt_iff_toInt_lt, show (32 : Int64).toInt = 32 from by decide]; omega
    have h6 : (64 : Int64) < c := by rw [Int64.lt_iff_toInt_lt, show (64 : Int64).toInt = 64 from by decide]; omega
    have h7 : (128 : Int64) < c := by rw [Int64.lt_iff_toInt_lt, show (128 : Int64).toInt = 128 from by decide]; omega
    have h8 : (256 : Int64) < c := by rw [Int64.lt_iff_toInt_lt, show (256 : Int64).toInt = 256 from by decide]; omega
    have h9 : (512 : Int64) < c := by rw [Int64.lt_iff_toInt_lt, show (512 : Int64).toInt = 512 from by decide]; omega
    have h10 : (1024 : Int64) < c := by rw [Int64.lt_iff_toInt_lt, show (1024 : Int64).toInt = 1024 from by decide]; omega
    have h11 : (2048 : Int64) < c := by rw [Int64.lt_iff_toInt_lt, show (2048 : Int64).toInt = 2048 from by decide]; omega
    have h12 : (4096 : Int64) < c := by rw [Int64.lt_iff_toInt_lt, show (4096 : Int64).toInt = 4096 from by decide]; omega
    have h13 : (8192 : Int64) < c := by rw [Int64.lt_iff_toInt_lt, show (8192 : Int64).toInt = 8192 from by decide]; omega
    have h14 : (16384 : Int64) < c := by rw [Int64.lt_iff_toInt_lt, show (16384 : Int64).toInt = 16384 from by decide]; omega
    have h15 : (32768 : Int64) < c := by rw [Int64.lt_iff_toInt_lt, show (32768 : Int64).toInt = 32768 from by decide]; omega
    unfold f1
    rw [if_pos h0, if_pos h1, if_pos h2, if_pos h3, if_pos h4, if_pos h5, if_pos h6, if_pos h7, if_pos h8, if_pos h9, if_pos h10, if_pos h11, if_pos h12, if_pos h13, if_pos h14, if_pos h15] <;> decide
theorem own_pow {i : Nat} (h : i ≤ 16) : 2 ^ i ≤ 65536 ∧ 1 ≤ 2 ^ i := by
  have : i = 0 ∨ i = 1 ∨ i = 2 ∨ i = 3 ∨ i = 4 ∨ i = 5 ∨ i = 6 ∨ i = 7 ∨ i = 8 ∨ i = 9 ∨ i = 10 ∨ i = 11 ∨ i = 12 ∨ i = 13 ∨ i = 14 ∨ i = 15 ∨ i = 16 := by omega
  rcases this with rfl | rfl | rfl | rfl | rfl | rfl | rfl | rfl | rfl | rfl | rfl | rfl | rfl | rfl | rfl | rfl | rfl <;> decide
theorem own_dbl {x : Int32} {i : Nat} (h : Ix x (2 ^ i)) (hi : i < 16) : Ix (x <<< ((1 : Int32) &&& 31)) (2 ^ (i + 1)) := by
  apply Ix.of
  have e := c_ishl x 1 1 (by decide)
  have q := h.int
  have p := own_pow (i := i) (by omega)
  have r := rng32 (x <<< ((1 : Int32) &&& 31))
  have t : ((2 ^ 1 : Nat) : Int) = 2 := by decide
  rw [t] at e
  have s : (2 : Nat) ^ (i + 1) = 2 * 2 ^ i := by rw [Nat.pow_succ]; omega
  rw [s]
  omega
theorem own_slot (x : Int64) {s : Int32} {i : Nat} (h : Ix s (2 ^ i)) (hi : i ≤ 16) : (x.toInt32 &&& (s - (1 : Int32))).toInt = x.toInt % (2 ^ i : Nat) ∧ (x &&& (s - (1 : Int32)).toInt64).toInt = x.toInt % (2 ^ i : Nat) := by
  have e := own_is h
  have l := c_l2i x
  have : i = 0 ∨ i = 1 ∨ i = 2 ∨ i = 3 ∨ i = 4 ∨ i = 5 ∨ i = 6 ∨ i = 7 ∨ i = 8 ∨ i = 9 ∨ i = 10 ∨ i = 11 ∨ i = 12 ∨ i = 13 ∨ i = 14 ∨ i = 15 ∨ i = 16 := by omega
  rcases this with rfl | rfl | rfl | rfl | rfl | rfl | rfl | rfl | rfl | rfl | rfl | rfl | rfl | rfl | rfl | rfl | rfl
  · have z : s - (1 : Int32) = 0 := by rw [e]; decide
    rw [z]
    have a := c_mask x.toInt32 0 0 (by decide) (by decide)
    have b := c_maskL x (0 : Int32).toInt64 0 (by decide) (by decide)
    have t : ((2 ^ 0 : Nat) : Int) = 1 := by decide
    rw [t] at a b ⊢
    exact ⟨by omega, b⟩
  · have z : s - (1 : Int32) = 1 := by rw [e]; decide
    rw [z]
    have a := c_mask x.toInt32 1 1 (by decide) (by decide)
    have b := c_maskL x (1 : Int32).toInt64 1 (by decide) (by decide)
    have t : ((2 ^ 1 : Nat) : Int) = 2 := by decide
    rw [t] at a b ⊢
    exact ⟨by omega, b⟩
  · have z : s - (1 : Int32) = 3 := by rw [e]; decide
    rw [z]
    have a := c_mask x.toInt32 3 2 (by decide) (by decide)
    have b := c_maskL x (3 : Int32).toInt64 2 (by decide) (by decide)
    have t : ((2 ^ 2 : Nat) : Int) = 4 := by decide
    rw [t] at a b ⊢
    exact ⟨by omega, b⟩
  · have z : s - (1 : Int32) = 7 := by rw [e]; decide
    rw [z]
    have a := c_mask x.toInt32 7 3 (by decide) (by decide)
    have b := c_maskL x (7 : Int32).toInt64 3 (by decide) (by decide)
    have t : ((2 ^ 3 : Nat) : Int) = 8 := by decide
    rw [t] at a b ⊢
    exact ⟨by omega, b⟩
  · have z : s - (1 : Int32) = 15 := by rw [e]; decide
    rw [z]
    have a := c_mask x.toInt32 15 4 (by decide) (by decide)
    have b := c_maskL x (15 : Int32).toInt64 4 (by decide) (by decide)
    have t : ((2 ^ 4 : Nat) : Int) = 16 := by decide
    rw [t] at a b ⊢
    exact ⟨by omega, b⟩
  · have z : s - (1 : Int32) = 31 := by rw [e]; decide
    rw [z]
    have a := c_mask x.toInt32 31 5 (by decide) (by decide)
    have b := c_maskL x (31 : Int32).toInt64 5 (by decide) (by decide)
    have t : ((2 ^ 5 : Nat) : Int) = 32 := by decide
    rw [t] at a b ⊢
    exact ⟨by omega, b⟩
  · have z : s - (1 : Int32) = 63 := by rw [e]; decide
    rw [z]
    have a := c_mask x.toInt32 63 6 (by decide) (by decide)
    have b := c_maskL x (63 : Int32).toInt64 6 (by decide) (by decide)
    have t : ((2 ^ 6 : Nat) : Int) = 64 := by decide
    rw [t] at a b ⊢
    exact ⟨by omega, b⟩
  · have z : s - (1 : Int32) = 127 := by rw [e]; decide
    rw [z]
    have a := c_mask x.toInt32 127 7 (by decide) (by decide)
    have b := c_maskL x (127 : Int32).toInt64 7 (by decide) (by decide)
    have t : ((2 ^ 7 : Nat) : Int) = 128 := by decide
    rw [t] at a b ⊢
    exact ⟨by omega, b⟩
  · have z : s - (1 : Int32) = 255 := by rw [e]; decide
    rw [z]
    have a := c_mask x.toInt32 255 8 (by decide) (by decide)
    have b := c_maskL x (255 : Int32).toInt64 8 (by decide) (by decide)
    have t : ((2 ^ 8 : Nat) : Int) = 256 := by decide
    rw [t] at a b ⊢
    exact ⟨by omega, b⟩
  · have z : s - (1 : Int32) = 511 := by rw [e]; decide
    rw [z]
    have a := c_mask x.toInt32 511 9 (by decide) (by decide)
    have b := c_maskL x (511 : Int32).toInt64 9 (by decide) (by decide)
    have t : ((2 ^ 9 : Nat) : Int) = 512 := by decide
    rw [t] at a b ⊢
    exact ⟨by omega, b⟩
  · have z : s - (1 : Int32) = 1023 := by rw [e]; decide
    rw [z]
    have a := c_mask x.toInt32 1023 10 (by decide) (by decide)
    have b := c_maskL x (1023 : Int32).toInt64 10 (by decide) (by decide)
    have t : ((2 ^ 10 : Nat) : Int) = 1024 := by decide
    rw [t] at a b ⊢
    exact ⟨by omega, b⟩
  · have z : s - (1 : Int32) = 2047 := by rw [e]; decide
    rw [z]
    have a := c_mask x.toInt32 2047 11 (by decide) (by decide)
    have b := c_maskL x (2047 : Int32).toInt64 11 (by decide) (by decide)
    have t : ((2 ^ 11 : Nat) : Int) = 2048 := by decide
    rw [t] at a b ⊢
    exact ⟨by omega, b⟩
  · have z : s - (1 : Int32) = 4095 := by rw [e]; decide
    rw [z]
    have a := c_mask x.toInt32 4095 12 (by decide) (by decide)
    have b := c_maskL x (4095 : Int32).toInt64 12 (by decide) (by decide)
    have t : ((2 ^ 12 : Nat) : Int) = 4096 := by decide
    rw [t] at a b ⊢
    exact ⟨by omega, b⟩
  · have z : s - (1 : Int32) = 8191 := by rw [e]; decide
    rw [z]
    have a := c_mask x.toInt32 8191 13 (by decide) (by decide)
    have b := c_maskL x (8191 : Int32).toInt64 13 (by decide) (by decide)
    have t : ((2 ^ 13 : Nat) : Int) = 8192 := by decide
    rw [t] at a b ⊢
    exact ⟨by omega, b⟩
  · have z : s - (1 : Int32) = 16383 := by rw [e]; decide
    rw [z]
    have a := c_mask x.toInt32 16383 14 (by decide) (by decide)
    have b := c_maskL x (16383 : Int32).toInt64 14 (by decide) (by decide)
    have t : ((2 ^ 14 : Nat) : Int) = 16384 := by decide
    rw [t] at a b ⊢
    exact ⟨by omega, b⟩
  · have z : s - (1 : Int32) = 32767 := by rw [e]; decide
    rw [z]
    have a := c_mask x.toInt32 32767 15 (by decide) (by decide)
    have b := c_maskL x (32767 : Int32).toInt64 15 (by decide) (by decide)
    have t : ((2 ^ 15 : Nat) : Int) = 32768 := by decide
    rw [t] at a b ⊢
    exact ⟨by omega, b⟩
  · have z : s - (1 : Int32) = 65535 := by rw [e]; decide
    rw [z]
    have a := c_mask x.toInt32 65535 16 (by decide) (by decide)
    have b := c_maskL x (65535 : Int32).toInt64 16 (by decide) (by decide)
    have t : ((2 ^ 16 : Nat) : Int) = 65536 := by decide
    rw [t] at a b ⊢
    exact ⟨by omega, b⟩
theorem own_ix (x : Int64) {s : Int32} {i : Nat} (h : Ix s (2 ^ i)) (hi : i ≤ 16) : ∃ t, t < 2 ^ i ∧ Ix (x.toInt32 &&& (s - (1 : Int32))) t ∧ (x &&& (s - (1 : Int32)).toInt64).toInt = (t : Int) := by
  obtain ⟨a, b⟩ := own_slot x h hi
  have p := own_pow hi
  have n0 := Int.emod_nonneg x.toInt (show ((2 ^ i : Nat) : Int) ≠ 0 by omega)
  have n1 := Int.emod_lt_of_pos x.toInt (show (0 : Int) < ((2 ^ i : Nat) : Int) by omega)
  exact ⟨(x.toInt % (2 ^ i : Nat)).toNat, by omega, Ix.of (by omega), by omega⟩
theorem own_ixs (x : Int64) {SZ i : Nat} (hSZ : SZ = 2 ^ i) (hi : i ≤ 16) : ∃ t, t < SZ ∧ Ix (x.toInt32 &&& (SZ.toInt32 - (1 : Int32))) t ∧ (x &&& (SZ.toInt32 - (1 : Int32)).toInt64).toInt = (t : Int) := by
  have p := own_pow hi
  have h : Ix SZ.toInt32 (2 ^ i) := by rw [← hSZ]; exact own_nat (by omega)
  obtain ⟨t, h1, h2, h3⟩ := own_ix x h hi
  exact ⟨t, by omega, h2, h3⟩
theorem acmpV {x y : Value} (h : x = y) : XT.acmp .ne x y = false := by subst h; simp [XT.acmp]
theorem own_char (x : Int32) : ¬ (255 : Int32) < (nar .char (x &&& (255 : Int32)).toUInt32.toUInt16.toUInt32.toInt32) := by
  have e := c_mask x 255 8 (by decide) (by decide)
  have t : ((2 ^ 8 : Nat) : Int) = 256 := by decide
  rw [t] at e
  have a := c_i2c (x &&& (255 : Int32))
  have b := c_i2c (x &&& (255 : Int32)).toUInt32.toUInt16.toUInt32.toInt32
  have k : (255 : Int32).toInt = 255 := by decide
  rw [Int32.lt_iff_toInt_lt]
  show ¬ (255 : Int32).toInt < ((x &&& (255 : Int32)).toUInt32.toUInt16.toUInt32.toInt32.toUInt32.toUInt16.toUInt32.toInt32).toInt
  omega
theorem d8_0 : decode prog_26_method_1_code 0 = .ok (.aload_n 0, 1) := by decide +kernel
theorem d8_1 : decode prog_26_method_1_code 1 = .ok (.invokespecial 1, 3) := by decide +kernel
theorem d8_4 : decode prog_26_method_1_code 4 = .ok (.iconst 1, 1) := by decide +kernel
theorem d8_5 : decode prog_26_method_1_code 5 = .ok (.istore_n 3, 1) := by decide +kernel
theorem d8_6 : decode prog_26_method_1_code 6 = .ok (.iload_n 3, 1) := by decide +kernel
theorem d8_7 : decode prog_26_method_1_code 7 = .ok (.ldc 9, 2) := by decide +kernel
theorem d8_9 : decode prog_26_method_1_code 9 = .ok (.if_icmp .ge 17, 3) := by decide +kernel
theorem d8_12 : decode prog_26_method_1_code 12 = .ok (.iload_n 3, 1) := by decide +kernel
theorem d8_13 : decode prog_26_method_1_code 13 = .ok (.i2l, 1) := by decide +kernel
theorem d8_14 : decode prog_26_method_1_code 14 = .ok (.lload_n 1, 1) := by decide +kernel
theorem d8_15 : decode prog_26_method_1_code 15 = .ok (.lcmp, 1) := by decide +kernel
theorem d8_16 : decode prog_26_method_1_code 16 = .ok (.ifCond .ge 10, 3) := by decide +kernel
theorem d8_19 : decode prog_26_method_1_code 19 = .ok (.iload_n 3, 1) := by decide +kernel
theorem d8_20 : decode prog_26_method_1_code 20 = .ok (.iconst 1, 1) := by decide +kernel
theorem d8_21 : decode prog_26_method_1_code 21 = .ok (.ishl, 1) := by decide +kernel
theorem d8_22 : decode prog_26_method_1_code 22 = .ok (.istore_n 3, 1) := by decide +kernel
theorem d8_23 : decode prog_26_method_1_code 23 = .ok (.goto (-17), 3) := by decide +kernel
theorem d8_26 : decode prog_26_method_1_code 26 = .ok (.aload_n 0, 1) := by decide +kernel
theorem d8_27 : decode prog_26_method_1_code 27 = .ok (.iload_n 3, 1) := by decide +kernel
theorem d8_28 : decode prog_26_method_1_code 28 = .ok (.anewarray 10, 3) := by decide +kernel
theorem d8_31 : decode prog_26_method_1_code 31 = .ok (.putfield 12, 3) := by decide +kernel
theorem d8_34 : decode prog_26_method_1_code 34 = .ok (.aload_n 0, 1) := by decide +kernel
theorem d8_35 : decode prog_26_method_1_code 35 = .ok (.iload_n 3, 1) := by decide +kernel
theorem d8_36 : decode prog_26_method_1_code 36 = .ok (.newarray .long, 2) := by decide +kernel
theorem d8_38 : decode prog_26_method_1_code 38 = .ok (.putfield 16, 3) := by decide +kernel
theorem d8_41 : decode prog_26_method_1_code 41 = .ok (.return_, 1) := by decide +kernel
theorem ef_8 (m : MethodId) (x0 : Addr) (x1 : Int64) : entryFrame m #[(.ref x0), (.long x1)] 4 = mkF m 0 #[.val (.ref x0), .val (.long x1), .second, .unset] [] := by first | (simp [entryFrame, mkF, argsToLocals, Value.category]; done) | rfl
set_option maxRecDepth 65536 in
set_option maxHeartbeats 40000000 in
theorem rm8 (l : Launch) (Z : State) (a0 : Array Value) (hw : ∀ d ∈ tables_1, d.before a0 Z = true) (x0 : Addr) (x1 : Int64) (h0 : Heap) (n0 : Nat) (Z0 : n0 ≤ h0.size) (ga : n0 ≤ x0) (E0 : Exa Z h0 x0 "com/example/bones_of_bytecode/bonesofbytecode/DecodedStrings") (F_kept : Fld Z h0 x0 "com/example/bones_of_bytecode/bonesofbytecode/DecodedStrings" "kept" "[Ljava/lang/String;" .null) (F_indices : Fld Z h0 x0 "com/example/bones_of_bytecode/bonesofbytecode/DecodedStrings" "indices" "[J" .null) (F_units : Fld Z h0 x0 "com/example/bones_of_bytecode/bonesofbytecode/DecodedStrings" "units" "J" (.long (0 : Int64))) :
    Con l Z (⟨"com/example/bones_of_bytecode/bonesofbytecode/DecodedStrings", "<init>", "(J)V"⟩ : MethodName) prog_26_method_1_code 4 none [] ({ frames := 1, cells := 2, slots := 131072, locals := 12 } : Room) #[(.ref x0), (.long x1)] h0 (fun v h L => v = none ∧ Fr n0 L ∧ Keep h0 h [x0] ∧ ∃ (i SZ : Nat) (ka ia : Addr) (kk : ClassId), SZ = 2 ^ i ∧ i ≤ 16 ∧ f1 x1 = SZ.toInt32 ∧ h0.size ≤ ka ∧ h0.size ≤ ia ∧ ka ≠ ia ∧ Fld Z h x0 "com/example/bones_of_bytecode/bonesofbytecode/DecodedStrings" "kept" "[Ljava/lang/String;" (.ref ka) ∧ Fld Z h x0 "com/example/bones_of_bytecode/bonesofbytecode/DecodedStrings" "indices" "[J" (.ref ia) ∧ Fld Z h x0 "com/example/bones_of_bytecode/bonesofbytecode/DecodedStrings" "units" "J" (.long (0 : Int64)) ∧ Ary Z h ka (.object "java/lang/String") SZ (fun _ => .null) ∧ Cls h ka kk ∧ Ovr Z kk "java/lang/String" ∧ Ary Z h ia .long SZ (fun _ => .long (0 : Int64))) := by
  refine Con.of (plainFor_of_name pn_3) ?_
  intro p e s m below meth c s₁ X0 hx hby hml hown hnm hret hlk hZ e0
  refine End.cast ?_ (ef_8 m x0 x1)
  have N0 := Fr.nil n0
  refine k_aloadN X0 hx (q := 1) rfl (hb hby d8_0) rfl rfl ?_
  refine k_initO X0 hx hZ hown (hw _ (List.mem_of_getElem? (i := 43) rfl)) (hw _ (List.mem_of_getElem? (i := 19) rfl)) (hw _ (List.mem_of_getElem? (i := 20) rfl)) e0 (q := 4) rfl (hb hby d8_1) (by rw [hml]; rfl) (by decide) 0 (by first | exact Nat.le_refl _ | simp [Value.category]) (by decide) ?_
  intro T1 X1 e1
  refine k_iconst X1 hx (v := (1 : Int32)) rfl (q := 5) rfl (hb hby d8_4) ?_
  refine k_istoreN X1 hx (L' := #[.val (.ref x0), .val (.long x1), .second, .val (.int (1 : Int32))]) (q := 6) rfl (hb hby d8_5) rfl ?_
  have J2 : ∀ (i : Nat) (sl : Int32), (i ≤ 16) → (Ix sl (2 ^ i)) → (i = 0 ∨ (2 : Int) ^ (i - 1) < x1.toInt) → (i = 16 ∨ ¬ (2 : Int) ^ i < x1.toInt) → End p e below s (fun v h L => v = none ∧ Fr n0 L ∧ Keep h0 h [x0] ∧ ∃ (i SZ : Nat) (ka ia : Addr) (kk : ClassId), SZ = 2 ^ i ∧ i ≤ 16 ∧ f1 x1 = SZ.toInt32 ∧ h0.size ≤ ka ∧ h0.size ≤ ia ∧ ka ≠ ia ∧ Fld Z h x0 "com/example/bones_of_bytecode/bonesofbytecode/DecodedStrings" "kept" "[Ljava/lang/String;" (.ref ka) ∧ Fld Z h x0 "com/example/bones_of_bytecode/bonesofbytecode/DecodedStrings" "indices" "[J" (.ref ia) ∧ Fld Z h x0 "com/example/bones_of_bytecode/bonesofbytecode/DecodedStrings" "units" "J" (.long (0 : Int64)) ∧ Ary Z h ka (.object "java/lang/String") SZ (fun _ => .null) ∧ Cls h ka kk ∧ Ovr Z kk "java/lang/String" ∧ Ary Z h ia .long SZ (fun _ => .long (0 : Int64))) 2 131072 (T1.setTop (mkF m 26 #[.val (.ref x0), .val (.long x1), .second, .val (.int sl)] [])) := by
    intro i sl hi hsl hc1 hc2
    have hp := own_pow hi
    refine k_aloadN X1 hx (q := 27) rfl (hb hby d8_26) rfl rfl ?_
    refine k_iloadN X1 hx (q := 28) rfl (hb hby d8_27) rfl ?_
    refine k_newR X1 hx hZ hown (hw _ (List.mem_of_getElem? (i := 45) rfl)) (hw _ (List.mem_of_getElem? (i := 46) rfl)) e1 (q := 31) rfl (hb hby d8_28) hsl.1 (cap := 65536) (by rw [hsl.2]; exact hp.1) (by decide) (by decide) (by decide) ?_
    intro T3 h3 ka k3 X3 e3 g3 E3 A3 O3
    have K3 := Keep.of_ext E3
    have V3 : Ary Z h3 ka (.object "java/lang/String") (2 ^ i) (fun _ => .null) := Ary.new A3 hsl.1 hsl.2
    have C3 : Cls h3 ka k3 := ⟨_, A3.1, rfl⟩
    have Gu4 := (F_kept.keep K3 nin0)
    have Gu5 := (E0.keep K3)
    refine k_putF X3 hx hZ (host := "") hown (Or.inl (hw _ (List.mem_of_getElem? (i := 47) rfl))) Via.refl e3 (Or.inr ⟨(hw _ (List.mem_of_getElem? (i := 48) rfl)), rfl, hnm⟩) (hw _ (List.mem_of_getElem? (i := 38) rfl)) (ty := (.array (.object "java/lang/String"))) (by decide) rfl rfl (q := 34) rfl (hb hby d8_31) Gu4 Gu5 ?_
    intro T6 h6 X6 e6 W6
    have K6 := Keep.of_wr W6
    have N6 := Fr.snoc X6 N0 ga
    have Fw6 := (Gu4).same W6
    refine k_aloadN X6 hx (q := 35) rfl (hb hby d8_34) rfl rfl ?_
    refine k_iloadN X6 hx (q := 36) rfl (hb hby d8_35) rfl ?_
    refine k_newP X6 hx hZ (hw _ (List.mem_of_getElem? (i := 49) rfl)) e6 (q := 38) rfl (hb hby d8_36) hsl.1 (cap := 65536) (by rw [hsl.2]; exact hp.1) (by decide) (by decide) (by decide) ?_
    intro T7 h7 ia k7 X7 e7 g7 E7 A7
    have K7 := Keep.of_ext E7
    have V7 : Ary Z h7 ia .long (2 ^ i) (fun _ => .long (0 : Int64)) := Ary.new A7 hsl.1 hsl.2
    have Gu8 := (((F_indices.keep K3 nin0).other W6 (Or.inr (slot_ne (t := (.array .long)) (t' := (.array (.object "java/lang/String"))) (Or.inr (hw _ (List.mem_of_getElem? (i := 51) rfl))) (Or.inr (hw _ (List.mem_of_getElem? (i := 48) rfl))) (by decide) (by decide) (by decide)))).keep K7 nin0)
    have Gu9 := ((Gu5.keep K6).keep K7)
    refine k_putF X7 hx hZ (host := "") hown (Or.inl (hw _ (List.mem_of_getElem? (i := 50) rfl))) Via.refl e7 (Or.inr ⟨(hw _ (List.mem_of_getElem? (i := 51) rfl)), rfl, hnm⟩) (hw _ (List.mem_of_getElem? (i := 38) rfl)) (ty := (.array .long)) (by decide) rfl rfl (q := 41) rfl (hb hby d8_38) Gu8 Gu9 ?_
    intro T10 h10 X10 e10 W10
    have K10 := Keep.of_wr W10
    have N10 := Fr.snoc X10 N6 ga
    have Fw10 := (Gu8).same W10
    have Kp11 : Keep h0 h3 [x0] := Keep.trans (Keep.refl h0 [x0]) K3 all0
    have Kp12 : Keep h0 h6 [x0] := Keep.trans Kp11 K6 (allS (Or.inl (List.mem_of_getElem? (i := 0) rfl)) all0)
    have Kp13 : Keep h0 h7 [x0] := Keep.trans Kp12 K7 all0
    have Kp14 : Keep h0 h10 [x0] := Keep.trans Kp13 K10 (allS (Or.inl (List.mem_of_getElem? (i := 0) rfl)) all0)
    have Gu15 := ((Fw6.keep K7 nin0).other W10 (Or.inr (slot_ne (t := (.array (.object "java/lang/String"))) (t' := (.array .long)) (Or.inr (hw _ (List.mem_of_getElem? (i := 48) rfl))) (Or.inr (hw _ (List.mem_of_getElem? (i := 51) rfl))) (by decide) (by decide) (by decide))))
    have Gu16 := ((((F_units.keep K3 nin0).other W6 (Or.inr (slot_ne (t := .long) (t' := (.array (.object "java/lang/String"))) (Or.inl (hw _ (List.mem_of_getElem? (i := 63) rfl))) (Or.inr (hw _ (List.mem_of_getElem? (i := 48) rfl))) (by decide) (by decide) (by decide)))).keep K7 nin0).other W10 (Or.inr (slot_ne (t := .long) (t' := (.array .long)) (Or.inl (hw _ (List.mem_of_getElem? (i := 63) rfl))) (Or.inr (hw _ (List.mem_of_getElem? (i := 51) rfl))) (by decide) (by decide) (by decide))))
    have ne_x0_ka : x0 ≠ ka := Nat.ne_of_lt (Nat.lt_of_lt_of_le (E0).lt (Nat.le_of_eq g3.symm))
    have Gu17 := (((V3.keep K6 (ninS (Ne.symm ne_x0_ka) nin0)).keep K7 nin0).keep K10 (ninS (Ne.symm ne_x0_ka) nin0))
    have Gu18 := (((C3.keep K6).keep K7).keep K10)
    have Gu19 := (Gu5.keep K6)
    have ne_x0_ia : x0 ≠ ia := Nat.ne_of_lt (Nat.lt_of_lt_of_le (Gu19).lt (Nat.le_of_eq g7.symm))
    have Gu20 := (V7.keep K10 (ninS (Ne.symm ne_x0_ia) nin0))
    have Gu21 := (V3.keep K6 (ninS (Ne.symm ne_x0_ka) nin0))
    have ne_ka_ia : ka ≠ ia := Nat.ne_of_lt (Nat.lt_of_lt_of_le (Gu21).lt (Nat.le_of_eq g7.symm))
    exact k_retV X10 hx hlk (by decide) (by decide) hret (hb hby d8_41) ⟨rfl, N10, by rw [e10]; exact Kp14, i, 2 ^ i, ka, ia, _, rfl, hi, own_slots x1 i hi hc1 hc2, Nat.le_trans (Keep.refl h0 [x0]).1 (Nat.le_of_eq g3.symm), Nat.le_trans Kp12.1 (Nat.le_of_eq g7.symm), ne_ka_ia, by rw [e10]; exact Gu15, by rw [e10]; exact Fw10, by rw [e10]; exact Gu16, by rw [e10]; exact Gu17, by rw [e10]; exact Gu18, O3, by rw [e10]; exact Gu20⟩
  have loop : ∀ (d i : Nat) (sl : Int32), 16 - i < d → i ≤ 16 → Ix sl (2 ^ i) → (i = 0 ∨ (2 : Int) ^ (i - 1) < x1.toInt) → End p e below s (fun v h L => v = none ∧ Fr n0 L ∧ Keep h0 h [x0] ∧ ∃ (i SZ : Nat) (ka ia : Addr) (kk : ClassId), SZ = 2 ^ i ∧ i ≤ 16 ∧ f1 x1 = SZ.toInt32 ∧ h0.size ≤ ka ∧ h0.size ≤ ia ∧ ka ≠ ia ∧ Fld Z h x0 "com/example/bones_of_bytecode/bonesofbytecode/DecodedStrings" "kept" "[Ljava/lang/String;" (.ref ka) ∧ Fld Z h x0 "com/example/bones_of_bytecode/bonesofbytecode/DecodedStrings" "indices" "[J" (.ref ia) ∧ Fld Z h x0 "com/example/bones_of_bytecode/bonesofbytecode/DecodedStrings" "units" "J" (.long (0 : Int64)) ∧ Ary Z h ka (.object "java/lang/String") SZ (fun _ => .null) ∧ Cls h ka kk ∧ Ovr Z kk "java/lang/String" ∧ Ary Z h ia .long SZ (fun _ => .long (0 : Int64))) 2 131072 (T1.setTop (mkF m 6 #[.val (.ref x0), .val (.long x1), .second, .val (.int sl)] [])) := by
    intro d
    induction d with
    | zero => intro i sl h; omega
    | succ d ih =>
      intro i sl hd hi hsl hc1
      have hp := own_pow hi
      refine k_iloadN X1 hx (q := 7) rfl (hb hby d8_6) rfl ?_
      refine k_ldcI X1 hx hZ (v := (65536 : Int32)) hown (hw _ (List.mem_of_getElem? (i := 44) rfl)) (q := 9) rfl (hb hby d8_7) ?_
      refine k_icmp_ge X1 hx (q1 := 26) (q := 12) (by decide) (by decide) rfl (hb hby d8_9) (fun hc22 => ?_) (fun hc22 => ?_)
      · exact J2 i sl hi hsl hc1 (Or.inl (by
          have q := mt (own_lt (k := 2 ^ i) (n := 65536) hsl ⟨by decide, by decide⟩).mpr hc22
          by_cases r : i = 16
          · exact r
          · have : 2 ^ i < 2 ^ 16 := Nat.pow_lt_pow_right (by decide) (by omega)
            omega))
      · have h16 : i < 16 := by
          have q := (own_lt (k := 2 ^ i) (n := 65536) hsl ⟨by decide, by decide⟩).mp hc22
          by_cases r : i = 16
          · subst r; exact absurd q (by decide)
          · omega
        refine k_iloadN X1 hx (q := 13) rfl (hb hby d8_12) rfl ?_
        refine k_i2l X1 hx (q := 14) rfl (hb hby d8_13) ?_
        refine k_lloadN X1 hx (q := 15) rfl (hb hby d8_14) rfl ?_
        refine k_lcmp_ge X1 hx (q1 := 26) (q := 19) (by decide) (by decide) rfl (hb hby d8_15) (hb hby d8_16) (fun hc23 => ?_) (fun hc23 => ?_)
        · exact J2 i sl hi hsl hc1 (Or.inr (by
            rw [Int64.lt_iff_toInt_lt, c_i2l, hsl.int] at hc23
            have : ((2 ^ i : Nat) : Int) = (2 : Int) ^ i := by simp
            omega))
        · refine k_iloadN X1 hx (q := 20) rfl (hb hby d8_19) rfl ?_
          refine k_iconst X1 hx (v := (1 : Int32)) rfl (q := 21) rfl (hb hby d8_20) ?_
          refine k_ishl X1 hx (q := 22) rfl (hb hby d8_21) ?_
          refine k_istoreN X1 hx (L' := #[.val (.ref x0), .val (.long x1), .second, .val (.int (sl <<< ((1 : Int32) &&& 31)))]) (q := 23) rfl (hb hby d8_22) rfl ?_
          refine k_goto X1 hx (q := 6) (by decide) (by decide) (hb hby d8_23) ?_
          exact ih (i + 1) _ (by omega) (by omega) (own_dbl hsl h16) (Or.inr (by
            rw [Int64.lt_iff_toInt_lt, c_i2l, hsl.int] at hc23
            have : ((2 ^ i : Nat) : Int) = (2 : Int) ^ i := by simp
            show (2 : Int) ^ i < x1.toInt
            omega))
  exact loop 17 0 _ (by omega) (by omega) ⟨by decide, by decide⟩ (Or.inl rfl)
theorem d9_0 : decode prog_26_method_2_code 0 = .ok (.lload_n 1, 1) := by decide +kernel
theorem d9_1 : decode prog_26_method_2_code 1 = .ok (.l2i, 1) := by decide +kernel
theorem d9_2 : decode prog_26_method_2_code 2 = .ok (.aload_n 0, 1) := by decide +kernel
theorem d9_3 : decode prog_26_method_2_code 3 = .ok (.getfield 12, 3) := by decide +kernel
theorem d9_6 : decode prog_26_method_2_code 6 = .ok (.arraylength, 1) := by decide +kernel
theorem d9_7 : decode prog_26_method_2_code 7 = .ok (.iconst 1, 1) := by decide +kernel
theorem d9_8 : decode prog_26_method_2_code 8 = .ok (.isub, 1) := by decide +kernel
theorem d9_9 : decode prog_26_method_2_code 9 = .ok (.iand, 1) := by decide +kernel
theorem d9_10 : decode prog_26_method_2_code 10 = .ok (.istore_n 3, 1) := by decide +kernel
theorem d9_11 : decode prog_26_method_2_code 11 = .ok (.aload_n 0, 1) := by decide +kernel
theorem d9_12 : decode prog_26_method_2_code 12 = .ok (.getfield 16, 3) := by decide +kernel
theorem d9_15 : decode prog_26_method_2_code 15 = .ok (.iload_n 3, 1) := by decide +kernel
theorem d9_16 : decode prog_26_method_2_code 16 = .ok (.laload, 1) := by decide +kernel
theorem d9_17 : decode prog_26_method_2_code 17 = .ok (.lload_n 1, 1) := by decide +kernel
theorem d9_18 : decode prog_26_method_2_code 18 = .ok (.lcmp, 1) := by decide +kernel
theorem d9_19 : decode prog_26_method_2_code 19 = .ok (.ifCond .ne 12, 3) := by decide +kernel
theorem d9_22 : decode prog_26_method_2_code 22 = .ok (.aload_n 0, 1) := by decide +kernel
theorem d9_23 : decode prog_26_method_2_code 23 = .ok (.getfield 12, 3) := by decide +kernel
theorem d9_26 : decode prog_26_method_2_code 26 = .ok (.iload_n 3, 1) := by decide +kernel
theorem d9_27 : decode prog_26_method_2_code 27 = .ok (.aaload, 1) := by decide +kernel
theorem d9_28 : decode prog_26_method_2_code 28 = .ok (.goto 4, 3) := by decide +kernel
theorem d9_31 : decode prog_26_method_2_code 31 = .ok (.aconst_null, 1) := by decide +kernel
theorem d9_32 : decode prog_26_method_2_code 32 = .ok (.areturn, 1) := by decide +kernel
theorem ef_9 (m : MethodId) (x0 : Addr) (x1 : Int64) : entryFrame m #[(.ref x0), (.long x1)] 4 = mkF m 0 #[.val (.ref x0), .val (.long x1), .second, .unset] [] := by first | (simp [entryFrame, mkF, argsToLocals, Value.category]; done) | rfl
set_option maxRecDepth 65536 in
set_option maxHeartbeats 40000000 in
theorem rm9 (l : Launch) (Z : State) (a0 : Array Value) (hw : ∀ d ∈ tables_1, d.before a0 Z = true) (x0 : Addr) (x1 : Int64) (h0 : Heap) (n0 : Nat) (SZ : Nat) (ka ia : Addr) (kv : Nat → Value) (iv : Nat → Int64) (F_kept : Fld Z h0 x0 "com/example/bones_of_bytecode/bonesofbytecode/DecodedStrings" "kept" "[Ljava/lang/String;" (.ref ka)) (F_indices : Fld Z h0 x0 "com/example/bones_of_bytecode/bonesofbytecode/DecodedStrings" "indices" "[J" (.ref ia)) (VK : Ary Z h0 ka (.object "java/lang/String") SZ kv) (VI : Ary Z h0 ia .long SZ (fun t => .long (iv t))) (hkr : ∀ t, (kv t).isRef = true) (t0 : Nat) (ht0 : t0 < SZ) (hix : Ix (x1.toInt32 &&& (SZ.toInt32 - (1 : Int32))) t0) :
    Con l Z (⟨"com/example/bones_of_bytecode/bonesofbytecode/DecodedStrings", "get", "(J)Ljava/lang/String;"⟩ : MethodName) prog_26_method_2_code 4 (some (.object "java/lang/String")) [] ({ frames := 0, cells := 0, slots := 0, locals := 0 } : Room) #[(.ref x0), (.long x1)] h0 (fun v h L => v = some (if iv t0 = x1 then kv t0 else .null) ∧ Fr n0 L ∧ h = h0) := by
  refine Con.of (plainFor_of_name pn_3) ?_
  intro p e s m below meth c s₁ X0 hx hby hml hown hnm hret hlk hZ e0
  refine End.cast ?_ (ef_9 m x0 x1)
  have N0 := Fr.nil n0
  refine k_lloadN X0 hx (q := 1) rfl (hb hby d9_0) rfl ?_
  refine k_l2i X0 hx (q := 2) rfl (hb hby d9_1) ?_
  refine k_aloadN X0 hx (q := 3) rfl (hb hby d9_2) rfl rfl ?_
  refine k_getF X0 hx hZ (host := "") hown (Or.inl (hw _ (List.mem_of_getElem? (i := 47) rfl))) Via.refl e0 (q := 6) rfl (hb hby d9_3) F_kept ?_
  intro T1 X1 e1
  refine k_al X1 hx hZ e1 (z := SZ.toInt32) (q := 7) rfl (hb hby d9_6) VK rfl ?_
  refine k_iconst X1 hx (v := (1 : Int32)) rfl (q := 8) rfl (hb hby d9_7) ?_
  refine k_isub X1 hx (q := 9) rfl (hb hby d9_8) ?_
  refine k_iand X1 hx (q := 10) rfl (hb hby d9_9) ?_
  refine k_istoreN X1 hx (L' := #[.val (.ref x0), .val (.long x1), .second, .val (.int (x1.toInt32 &&& (SZ.toInt32 - (1 : Int32))))]) (q := 11) rfl (hb hby d9_10) rfl ?_
  refine k_aloadN X1 hx (q := 12) rfl (hb hby d9_11) rfl rfl ?_
  refine k_getF X1 hx hZ (host := "") hown (Or.inl (hw _ (List.mem_of_getElem? (i := 50) rfl))) Via.refl e1 (q := 15) rfl (hb hby d9_12) F_indices ?_
  intro T2 X2 e2
  refine k_iloadN X2 hx (q := 16) rfl (hb hby d9_15) rfl ?_
  refine k_arJ X2 hx hZ e2 (x := (.long (iv t0))) t0 (q := 17) rfl (hb hby d9_16) VI hix ht0 rfl ?_
  refine k_lloadN X2 hx (q := 18) rfl (hb hby d9_17) rfl ?_
  refine k_lcmp_ne X2 hx (q1 := 31) (q := 22) (by decide) (by decide) rfl (hb hby d9_18) (hb hby d9_19) (fun hc3 => ?_) (fun hc3 => ?_)
  · refine k_aconst_null X2 hx (q := 32) rfl (hb hby d9_31) ?_
    exact k_retA X2 hx hlk (by decide) (by decide) hret rfl rfl (hb hby d9_32) ⟨by rw [if_neg hc3], N0, e2⟩
  · refine k_aloadN X2 hx (q := 23) rfl (hb hby d9_22) rfl rfl ?_
    refine k_getF X2 hx hZ (host := "") hown (Or.inl (hw _ (List.mem_of_getElem? (i := 47) rfl))) Via.refl e2 (q := 26) rfl (hb hby d9_23) F_kept ?_
    intro T4 X4 e4
    refine k_iloadN X4 hx (q := 27) rfl (hb hby d9_26) rfl ?_
    refine k_arR X4 hx hZ e4 (x := (kv t0)) t0 (q := 28) rfl (hb hby d9_27) VK rfl hix ht0 rfl ?_
    refine k_goto X4 hx (q := 32) (by decide) (by decide) (hb hby d9_28) ?_
    exact k_retA X4 hx hlk (by decide) (by decide) hret rfl (hkr t0) (hb hby d9_32) ⟨by rw [if_pos hc3], N0, e4⟩
theorem d10_0 : decode prog_26_method_3_code 0 = .ok (.lload_n 1, 1) := by decide +kernel
theorem d10_1 : decode prog_26_method_3_code 1 = .ok (.l2i, 1) := by decide +kernel
theorem d10_2 : decode prog_26_method_3_code 2 = .ok (.aload_n 0, 1) := by decide +kernel
theorem d10_3 : decode prog_26_method_3_code 3 = .ok (.getfield 12, 3) := by decide +kernel
theorem d10_6 : decode prog_26_method_3_code 6 = .ok (.arraylength, 1) := by decide +kernel
theorem d10_7 : decode prog_26_method_3_code 7 = .ok (.iconst 1, 1) := by decide +kernel
theorem d10_8 : decode prog_26_method_3_code 8 = .ok (.isub, 1) := by decide +kernel
theorem d10_9 : decode prog_26_method_3_code 9 = .ok (.iand, 1) := by decide +kernel
theorem d10_10 : decode prog_26_method_3_code 10 = .ok (.istore 4, 2) := by decide +kernel
theorem d10_12 : decode prog_26_method_3_code 12 = .ok (.aload_n 0, 1) := by decide +kernel
theorem d10_13 : decode prog_26_method_3_code 13 = .ok (.getfield 12, 3) := by decide +kernel
theorem d10_16 : decode prog_26_method_3_code 16 = .ok (.iload 4, 2) := by decide +kernel
theorem d10_18 : decode prog_26_method_3_code 18 = .ok (.aaload, 1) := by decide +kernel
theorem d10_19 : decode prog_26_method_3_code 19 = .ok (.astore 5, 2) := by decide +kernel
theorem d10_21 : decode prog_26_method_3_code 21 = .ok (.aload_n 0, 1) := by decide +kernel
theorem d10_22 : decode prog_26_method_3_code 22 = .ok (.getfield 20, 3) := by decide +kernel
theorem d10_25 : decode prog_26_method_3_code 25 = .ok (.aload 5, 2) := by decide +kernel
theorem d10_27 : decode prog_26_method_3_code 27 = .ok (.ifnonnull 7, 3) := by decide +kernel
theorem d10_30 : decode prog_26_method_3_code 30 = .ok (.iconst 0, 1) := by decide +kernel
theorem d10_31 : decode prog_26_method_3_code 31 = .ok (.goto 8, 3) := by decide +kernel
theorem d10_34 : decode prog_26_method_3_code 34 = .ok (.aload 5, 2) := by decide +kernel
theorem d10_36 : decode prog_26_method_3_code 36 = .ok (.invokevirtual 24, 3) := by decide +kernel
theorem d10_39 : decode prog_26_method_3_code 39 = .ok (.i2l, 1) := by decide +kernel
theorem d10_40 : decode prog_26_method_3_code 40 = .ok (.lsub, 1) := by decide +kernel
theorem d10_41 : decode prog_26_method_3_code 41 = .ok (.aload_n 3, 1) := by decide +kernel
theorem d10_42 : decode prog_26_method_3_code 42 = .ok (.invokevirtual 24, 3) := by decide +kernel
theorem d10_45 : decode prog_26_method_3_code 45 = .ok (.i2l, 1) := by decide +kernel
theorem d10_46 : decode prog_26_method_3_code 46 = .ok (.ladd, 1) := by decide +kernel
theorem d10_47 : decode prog_26_method_3_code 47 = .ok (.lstore 6, 2) := by decide +kernel
theorem d10_49 : decode prog_26_method_3_code 49 = .ok (.aload_n 3, 1) := by decide +kernel
theorem d10_50 : decode prog_26_method_3_code 50 = .ok (.invokevirtual 24, 3) := by decide +kernel
theorem d10_53 : decode prog_26_method_3_code 53 = .ok (.sipush 1024, 3) := by decide +kernel
theorem d10_56 : decode prog_26_method_3_code 56 = .ok (.if_icmp .gt 34, 3) := by decide +kernel
theorem d10_59 : decode prog_26_method_3_code 59 = .ok (.lload 6, 2) := by decide +kernel
theorem d10_61 : decode prog_26_method_3_code 61 = .ok (.ldc2_w 28, 3) := by decide +kernel
theorem d10_64 : decode prog_26_method_3_code 64 = .ok (.lcmp, 1) := by decide +kernel
theorem d10_65 : decode prog_26_method_3_code 65 = .ok (.ifCond .gt 25, 3) := by decide +kernel
theorem d10_68 : decode prog_26_method_3_code 68 = .ok (.aload_n 0, 1) := by decide +kernel
theorem d10_69 : decode prog_26_method_3_code 69 = .ok (.getfield 12, 3) := by decide +kernel
theorem d10_72 : decode prog_26_method_3_code 72 = .ok (.iload 4, 2) := by decide +kernel
theorem d10_74 : decode prog_26_method_3_code 74 = .ok (.aload_n 3, 1) := by decide +kernel
theorem d10_75 : decode prog_26_method_3_code 75 = .ok (.aastore, 1) := by decide +kernel
theorem d10_76 : decode prog_26_method_3_code 76 = .ok (.aload_n 0, 1) := by decide +kernel
theorem d10_77 : decode prog_26_method_3_code 77 = .ok (.getfield 16, 3) := by decide +kernel
theorem d10_80 : decode prog_26_method_3_code 80 = .ok (.iload 4, 2) := by decide +kernel
theorem d10_82 : decode prog_26_method_3_code 82 = .ok (.lload_n 1, 1) := by decide +kernel
theorem d10_83 : decode prog_26_method_3_code 83 = .ok (.lastore, 1) := by decide +kernel
theorem d10_84 : decode prog_26_method_3_code 84 = .ok (.aload_n 0, 1) := by decide +kernel
theorem d10_85 : decode prog_26_method_3_code 85 = .ok (.lload 6, 2) := by decide +kernel
theorem d10_87 : decode prog_26_method_3_code 87 = .ok (.putfield 20, 3) := by decide +kernel
theorem d10_90 : decode prog_26_method_3_code 90 = .ok (.return_, 1) := by decide +kernel
theorem ef_10n (m : MethodId) (x0 : Addr) (x1 : Int64) (x2 : Addr) : entryFrame m #[(.ref x0), (.long x1), (.ref x2)] 8 = mkF m 0 #[.val (.ref x0), .val (.long x1), .second, .val (.ref x2), .unset, .unset, .unset, .unset] [] := by first | (simp [entryFrame, mkF, argsToLocals, Value.category]; done) | rfl
set_option maxRecDepth 65536 in
set_option maxHeartbeats 40000000 in
theorem rm10n (l : Launch) (Z : State) (a0 : Array Value) (hw : ∀ d ∈ tables_1, d.before a0 Z = true) (x0 : Addr) (x1 : Int64) (x2 : Addr) (h0 : Heap) (n0 : Nat) (cs : Int32) (hcs : ¬ cs = (0 : Int32)) (hS : Sta Z h0 "java/lang/String" "COMPACT_STRINGS" "Z" (.int cs)) (SZ : Nat) (ka ia : Addr) (kv : Nat → Value) (iv : Nat → Int64) (F_kept : Fld Z h0 x0 "com/example/bones_of_bytecode/bonesofbytecode/DecodedStrings" "kept" "[Ljava/lang/String;" (.ref ka)) (F_indices : Fld Z h0 x0 "com/example/bones_of_bytecode/bonesofbytecode/DecodedStrings" "indices" "[J" (.ref ia)) (VK : Ary Z h0 ka (.object "java/lang/String") SZ kv) (VI : Ary Z h0 ia .long SZ (fun t => .long (iv t))) (hkr : ∀ t, (kv t).isRef = true) (t0 : Nat) (ht0 : t0 < SZ) (hix : Ix (x1.toInt32 &&& (SZ.toInt32 - (1 : Int32))) t0) (ga : n0 ≤ x0) (gk : n0 ≤ ka) (gi : n0 ≤ ia) (nk : ka ≠ x0) (ni : ia ≠ x0) (nki : ka ≠ ia) (E0 : Exa Z h0 x0 "com/example/bones_of_bytecode/bonesofbytecode/DecodedStrings") (un : Int64) (F_units : Fld Z h0 x0 "com/example/bones_of_bytecode/bonesofbytecode/DecodedStrings" "units" "J" (.long un)) (kk : ClassId) (CK : Cls h0 ka kk) (OK : Ovr Z kk "java/lang/String") (hun : ¬ (2097152 : Int64) < (un - (0 : Int32).toInt64 + (1 : Int32).toInt64)) (b2 : Addr) (E2 : Exa Z h0 x2 "java/lang/String") (F21 : Fld Z h0 x2 "java/lang/String" "value" "[B" (.ref b2)) (F22 : Fld Z h0 x2 "java/lang/String" "coder" "B" (.int (0 : Int32))) (v2 : Nat → Value) (V2 : Ary Z h0 b2 .byte 1 v2) (hold : kv t0 = .null) :
    Con l Z (⟨"com/example/bones_of_bytecode/bonesofbytecode/DecodedStrings", "keep", "(JLjava/lang/String;)V"⟩ : MethodName) prog_26_method_3_code 8 none [] ({ frames := 2, cells := 0, slots := 0, locals := 27 } : Room) #[(.ref x0), (.long x1), (.ref x2)] h0 (fun v h L => v = none ∧ Fr n0 L ∧ Keep h0 h [x0, ka, ia] ∧ Fld Z h x0 "com/example/bones_of_bytecode/bonesofbytecode/DecodedStrings" "kept" "[Ljava/lang/String;" (.ref ka) ∧ Fld Z h x0 "com/example/bones_of_bytecode/bonesofbytecode/DecodedStrings" "indices" "[J" (.ref ia) ∧ Fld Z h x0 "com/example/bones_of_bytecode/bonesofbytecode/DecodedStrings" "units" "J" (.long (un - (0 : Int32).toInt64 + (1 : Int32).toInt64)) ∧ Cls h ka kk ∧ Ary Z h ka (.object "java/lang/String") SZ (fun t => if t = t0 then .ref x2 else kv t) ∧ Ary Z h ia .long SZ (fun t => .long (Jvm.OwnK.upd iv t0 x1 t))) := by
  refine Con.of (plainFor_of_name pn_3) ?_
  intro p e s m below meth c s₁ X0 hx hby hml hown hnm hret hlk hZ e0
  refine End.cast ?_ (ef_10n m x0 x1 x2)
  have N0 := Fr.nil n0
  refine k_lloadN X0 hx (q := 1) rfl (hb hby d10_0) rfl ?_
  refine k_l2i X0 hx (q := 2) rfl (hb hby d10_1) ?_
  refine k_aloadN X0 hx (q := 3) rfl (hb hby d10_2) rfl rfl ?_
  refine k_getF X0 hx hZ (host := "") hown (Or.inl (hw _ (List.mem_of_getElem? (i := 47) rfl))) Via.refl e0 (q := 6) rfl (hb hby d10_3) F_kept ?_
  intro T1 X1 e1
  refine k_al X1 hx hZ e1 (z := SZ.toInt32) (q := 7) rfl (hb hby d10_6) VK rfl ?_
  refine k_iconst X1 hx (v := (1 : Int32)) rfl (q := 8) rfl (hb hby d10_7) ?_
  refine k_isub X1 hx (q := 9) rfl (hb hby d10_8) ?_
  refine k_iand X1 hx (q := 10) rfl (hb hby d10_9) ?_
  refine k_istore X1 hx (L' := #[.val (.ref x0), .val (.long x1), .second, .val (.ref x2), .val (.int (x1.toInt32 &&& (SZ.toInt32 - (1 : Int32)))), .unset, .unset, .unset]) (q := 12) rfl (hb hby d10_10) rfl ?_
  refine k_aloadN X1 hx (q := 13) rfl (hb hby d10_12) rfl rfl ?_
  refine k_getF X1 hx hZ (host := "") hown (Or.inl (hw _ (List.mem_of_getElem? (i := 47) rfl))) Via.refl e1 (q := 16) rfl (hb hby d10_13) F_kept ?_
  intro T2 X2 e2
  refine k_iload X2 hx (q := 18) rfl (hb hby d10_16) rfl ?_
  refine k_arR X2 hx hZ e2 (x := .null) t0 (q := 19) rfl (hb hby d10_18) VK rfl hix ht0 hold ?_
  refine k_astore X2 hx (L' := #[.val (.ref x0), .val (.long x1), .second, .val (.ref x2), .val (.int (x1.toInt32 &&& (SZ.toInt32 - (1 : Int32)))), .val .null, .unset, .unset]) (q := 21) rfl (hb hby d10_19) rfl rfl ?_
  refine k_aloadN X2 hx (q := 22) rfl (hb hby d10_21) rfl rfl ?_
  refine k_getF X2 hx hZ (host := "") hown (Or.inl (hw _ (List.mem_of_getElem? (i := 62) rfl))) Via.refl e2 (q := 25) rfl (hb hby d10_22) F_units ?_
  intro T3 X3 e3
  refine k_aload X3 hx (q := 27) rfl (hb hby d10_25) rfl rfl ?_
  refine k_ifnonnull_n X3 hx (q := 30) rfl (hb hby d10_27) ?_
  refine k_iconst X3 hx (v := (0 : Int32)) rfl (q := 31) rfl (hb hby d10_30) ?_
  refine k_goto X3 hx (q := 39) (by decide) (by decide) (hb hby d10_31) ?_
  refine k_i2l X3 hx (q := 40) rfl (hb hby d10_39) ?_
  refine k_lsub X3 hx (q := 41) rfl (hb hby d10_40) ?_
  refine k_aloadN X3 hx (q := 42) rfl (hb hby d10_41) rfl rfl ?_
  refine k_callV X3 hx hZ (y := (⟨"java/lang/String", "length", "()I"⟩ : MethodName)) (z := (⟨"java/lang/String", "length", "()I"⟩ : MethodName)) hown (hw _ (List.mem_of_getElem? (i := 64) rfl)) (hw _ (List.mem_of_getElem? (i := 65) rfl)) (notFace_of_selects (args := #[]) (mvT hZ (hw _ (List.mem_of_getElem? (i := 67) rfl)))) (hw _ (List.mem_of_getElem? (i := 67) rfl)) (hw _ (List.mem_of_getElem? (i := 66) rfl)) (hw _ (List.mem_of_getElem? (i := 68) rfl)) (hw _ (List.mem_of_getElem? (i := 9) rfl)) (by decide) E2 2 e3 (rm11 l Z a0 hw x2 h0 n0 cs hcs hS F22 E2 b2 F21 1 _ V2) (by decide) (by decide) (by decide) (by decide) (by rw [hml]; rfl) (a := x2) (as := []) (rest := [(.long (un - (0 : Int32).toInt64))]) pd_5 rfl (by first | exact Nat.le_refl _ | simp [Value.category]) (q := 45) rfl (hb hby d10_42) ?_
  rintro _ T4 L4 X4 ⟨rfl, N4q, e4⟩
  have N4 := Fr.app N0 N4q
  show End _ _ _ _ _ _ _ (T4.setTop (mkF m 45 #[.val (.ref x0), .val (.long x1), .second, .val (.ref x2), .val (.int (x1.toInt32 &&& (SZ.toInt32 - (1 : Int32)))), .val .null, .unset, .unset] [(.int (1 : Nat).toInt32), (.long (un - (0 : Int32).toInt64))]))
  rw [show (1 : Nat).toInt32 = (1 : Int32) from by decide]
  show End _ _ _ _ _ _ _ (T4.setTop (mkF m 45 #[.val (.ref x0), .val (.long x1), .second, .val (.ref x2), .val (.int (x1.toInt32 &&& (SZ.toInt32 - (1 : Int32)))), .val .null, .unset, .unset] [(.int (1 : Int32)), (.long (un - (0 : Int32).toInt64))]))
  refine k_i2l X4 hx (q := 46) rfl (hb hby d10_45) ?_
  refine k_ladd X4 hx (q := 47) rfl (hb hby d10_46) ?_
  refine k_lstore X4 hx (L' := #[.val (.ref x0), .val (.long x1), .second, .val (.ref x2), .val (.int (x1.toInt32 &&& (SZ.toInt32 - (1 : Int32)))), .val .null, .val (.long ((un - (0 : Int32).toInt64) + (1 : Int32).toInt64)), .second]) (q := 49) rfl (hb hby d10_47) rfl ?_
  refine k_aloadN X4 hx (q := 50) rfl (hb hby d10_49) rfl rfl ?_
  refine k_callV X4 hx hZ (y := (⟨"java/lang/String", "length", "()I"⟩ : MethodName)) (z := (⟨"java/lang/String", "length", "()I"⟩ : MethodName)) hown (hw _ (List.mem_of_getElem? (i := 64) rfl)) (hw _ (List.mem_of_getElem? (i := 65) rfl)) (notFace_of_selects (args := #[]) (mvT hZ (hw _ (List.mem_of_getElem? (i := 67) rfl)))) (hw _ (List.mem_of_getElem? (i := 67) rfl)) (hw _ (List.mem_of_getElem? (i := 66) rfl)) (hw _ (List.mem_of_getElem? (i := 68) rfl)) (hw _ (List.mem_of_getElem? (i := 9) rfl)) (by decide) E2 0 e4 (rm11 l Z a0 hw x2 h0 n0 cs hcs hS F22 E2 b2 F21 1 _ V2) (by decide) (by decide) (by decide) (by decide) (by rw [hml]; rfl) (a := x2) (as := []) (rest := []) pd_5 rfl (by first | exact Nat.le_refl _ | simp [Value.category]) (q := 53) rfl (hb hby d10_50) ?_
  rintro _ T5 L5 X5 ⟨rfl, N5q, e5⟩
  have N5 := Fr.app N4 N5q
  show End _ _ _ _ _ _ _ (T5.setTop (mkF m 53 #[.val (.ref x0), .val (.long x1), .second, .val (.ref x2), .val (.int (x1.toInt32 &&& (SZ.toInt32 - (1 : Int32)))), .val .null, .val (.long ((un - (0 : Int32).toInt64) + (1 : Int32).toInt64)), .second] [(.int (1 : Nat).toInt32)]))
  rw [show (1 : Nat).toInt32 = (1 : Int32) from by decide]
  show End _ _ _ _ _ _ _ (T5.setTop (mkF m 53 #[.val (.ref x0), .val (.long x1), .second, .val (.ref x2), .val (.int (x1.toInt32 &&& (SZ.toInt32 - (1 : Int32)))), .val .null, .val (.long ((un - (0 : Int32).toInt64) + (1 : Int32).toInt64)), .second] [(.int (1 : Int32))]))
  refine k_sipush X5 hx (v := (1024 : Int32)) rfl (q := 56) rfl (hb hby d10_53) ?_
  refine k_icmp_gt X5 hx (q1 := 90) (q := 59) (by decide) (by decide) rfl (hb hby d10_56) (fun hc => absurd hc (by decide)) (fun _ => ?_)
  refine k_lload X5 hx (q := 61) rfl (hb hby d10_59) rfl ?_
  refine k_ldc2J X5 hx hZ (v := (2097152 : Int64)) hown (hw _ (List.mem_of_getElem? (i := 74) rfl)) (q := 64) rfl (hb hby d10_61) ?_
  refine k_lcmp_gt X5 hx (q1 := 90) (q := 68) (by decide) (by decide) rfl (hb hby d10_64) (hb hby d10_65) (fun hc => absurd hc hun) (fun _ => ?_)
  refine k_aloadN X5 hx (q := 69) rfl (hb hby d10_68) rfl rfl ?_
  refine k_getF X5 hx hZ (host := "") hown (Or.inl (hw _ (List.mem_of_getElem? (i := 47) rfl))) Via.refl e5 (q := 72) rfl (hb hby d10_69) F_kept ?_
  intro T8 X8 e8
  refine k_iload X8 hx (q := 74) rfl (hb hby d10_72) rfl ?_
  refine k_aloadN X8 hx (q := 75) rfl (hb hby d10_74) rfl rfl ?_
  have St := Sto.ofA VK CK OK (Ins.self E2)
  refine k_asR X8 hx hZ e8 t0 (q := 76) rfl (hb hby d10_75) VK hix ht0 rfl St ?_
  intro T9 h9 X9 e9 W9 V9
  have K9 := Keep.of_wr W9
  have N9 := Fr.snoc X9 N5 gk
  refine k_aloadN X9 hx (q := 77) rfl (hb hby d10_76) rfl rfl ?_
  have Gu10 := (F_indices.keep K9 (ninS (Ne.symm nk) nin0))
  refine k_getF X9 hx hZ (host := "") hown (Or.inl (hw _ (List.mem_of_getElem? (i := 50) rfl))) Via.refl e9 (q := 80) rfl (hb hby d10_77) Gu10 ?_
  intro T11 X11 e11
  refine k_iload X11 hx (q := 82) rfl (hb hby d10_80) rfl ?_
  refine k_lloadN X11 hx (q := 83) rfl (hb hby d10_82) rfl ?_
  have Gu12 := (VI.keep K9 (ninS (Ne.symm nki) nin0))
  refine k_asJ X11 hx hZ e11 t0 (q := 84) rfl (hb hby d10_83) Gu12 hix ht0 ?_
  intro T13 h13 X13 e13 W13 V13
  have K13 := Keep.of_wr W13
  have N13 := Fr.snoc X13 N9 gi
  refine k_aloadN X13 hx (q := 85) rfl (hb hby d10_84) rfl rfl ?_
  refine k_lload X13 hx (q := 87) rfl (hb hby d10_85) rfl ?_
  have Gu14 := ((F_units.keep K9 (ninS (Ne.symm nk) nin0)).keep K13 (ninS (Ne.symm ni) nin0))
  have Gu15 := ((E0.keep K9).keep K13)
  refine k_putF X13 hx hZ (host := "") hown (Or.inl (hw _ (List.mem_of_getElem? (i := 62) rfl))) Via.refl e13 (Or.inl (hw _ (List.mem_of_getElem? (i := 63) rfl))) (hw _ (List.mem_of_getElem? (i := 38) rfl)) (ty := .long) (by decide) rfl rfl (q := 90) rfl (hb hby d10_87) Gu14 Gu15 ?_
  intro T16 h16 X16 e16 W16
  have K16 := Keep.of_wr W16
  have N16 := Fr.snoc X16 N13 ga
  have Fw16 := (Gu14).same W16
  have Kp17 : Keep h0 h9 [x0, ka, ia] := Keep.trans (Keep.refl h0 [x0, ka, ia]) K9 (allS (Or.inl (List.mem_of_getElem? (i := 1) rfl)) all0)
  have Kp18 : Keep h0 h13 [x0, ka, ia] := Keep.trans Kp17 K13 (allS (Or.inl (List.mem_of_getElem? (i := 2) rfl)) all0)
  have Kp19 : Keep h0 h16 [x0, ka, ia] := Keep.trans Kp18 K16 (allS (Or.inl (List.mem_of_getElem? (i := 0) rfl)) all0)
  have Gu20 := (((F_kept.keep K9 (ninS (Ne.symm nk) nin0)).keep K13 (ninS (Ne.symm ni) nin0)).other W16 (Or.inr (slot_ne (t := (.array (.object "java/lang/String"))) (t' := .long) (Or.inr (hw _ (List.mem_of_getElem? (i := 48) rfl))) (Or.inl (hw _ (List.mem_of_getElem? (i := 63) rfl))) (by decide) (by decide) (by decide))))
  have Gu21 := ((Gu10.keep K13 (ninS (Ne.symm ni) nin0)).other W16 (Or.inr (slot_ne (t := (.array .long)) (t' := .long) (Or.inr (hw _ (List.mem_of_getElem? (i := 51) rfl))) (Or.inl (hw _ (List.mem_of_getElem? (i := 63) rfl))) (by decide) (by decide) (by decide))))
  have Gu22 := (((CK.keep K9).keep K13).keep K16)
  have Gu23 := ((V9.keep K13 (ninS nki nin0)).keep K16 (ninS nk nin0))
  have Gu24 := (V13.keep K16 (ninS ni nin0))
  exact k_retV X16 hx hlk (by decide) (by decide) hret (hb hby d10_90) ⟨rfl, N16, by rw [e16]; exact Kp19, by rw [e16]; exact Gu20, by rw [e16]; exact Gu21, by rw [e16]; exact Fw16, by rw [e16]; exact Gu22, by rw [e16]; exact Gu23, by rw [e16]; exact Gu24.congr fun t _ => by unfold Jvm.OwnK.upd; by_cases q : t = t0 <;> simp only [q, if_true, if_false]⟩
theorem ef_10r (m : MethodId) (x0 : Addr) (x1 : Int64) (x2 : Addr) : entryFrame m #[(.ref x0), (.long x1), (.ref x2)] 8 = mkF m 0 #[.val (.ref x0), .val (.long x1), .second, .val (.ref x2), .unset, .unset, .unset, .unset] [] := by first | (simp [entryFrame, mkF, argsToLocals, Value.category]; done) | rfl
set_option maxRecDepth 65536 in
set_option maxHeartbeats 40000000 in
theorem rm10r (l : Launch) (Z : State) (a0 : Array Value) (hw : ∀ d ∈ tables_1, d.before a0 Z = true) (x0 : Addr) (x1 : Int64) (x2 : Addr) (h0 : Heap) (n0 : Nat) (cs : Int32) (hcs : ¬ cs = (0 : Int32)) (hS : Sta Z h0 "java/lang/String" "COMPACT_STRINGS" "Z" (.int cs)) (SZ : Nat) (ka ia : Addr) (kv : Nat → Value) (iv : Nat → Int64) (F_kept : Fld Z h0 x0 "com/example/bones_of_bytecode/bonesofbytecode/DecodedStrings" "kept" "[Ljava/lang/String;" (.ref ka)) (F_indices : Fld Z h0 x0 "com/example/bones_of_bytecode/bonesofbytecode/DecodedStrings" "indices" "[J" (.ref ia)) (VK : Ary Z h0 ka (.object "java/lang/String") SZ kv) (VI : Ary Z h0 ia .long SZ (fun t => .long (iv t))) (hkr : ∀ t, (kv t).isRef = true) (t0 : Nat) (ht0 : t0 < SZ) (hix : Ix (x1.toInt32 &&& (SZ.toInt32 - (1 : Int32))) t0) (ga : n0 ≤ x0) (gk : n0 ≤ ka) (gi : n0 ≤ ia) (nk : ka ≠ x0) (ni : ia ≠ x0) (nki : ka ≠ ia) (E0 : Exa Z h0 x0 "com/example/bones_of_bytecode/bonesofbytecode/DecodedStrings") (un : Int64) (F_units : Fld Z h0 x0 "com/example/bones_of_bytecode/bonesofbytecode/DecodedStrings" "units" "J" (.long un)) (kk : ClassId) (CK : Cls h0 ka kk) (OK : Ovr Z kk "java/lang/String") (hun : ¬ (2097152 : Int64) < (un - (1 : Int32).toInt64 + (1 : Int32).toInt64)) (b2 : Addr) (E2 : Exa Z h0 x2 "java/lang/String") (F21 : Fld Z h0 x2 "java/lang/String" "value" "[B" (.ref b2)) (F22 : Fld Z h0 x2 "java/lang/String" "coder" "B" (.int (0 : Int32))) (v2 : Nat → Value) (V2 : Ary Z h0 b2 .byte 1 v2) (x3 b3 : Addr) (hold : kv t0 = .ref x3) (E3 : Exa Z h0 x3 "java/lang/String") (F31 : Fld Z h0 x3 "java/lang/String" "value" "[B" (.ref b3)) (F32 : Fld Z h0 x3 "java/lang/String" "coder" "B" (.int (0 : Int32))) (v3 : Nat → Value) (V3 : Ary Z h0 b3 .byte 1 v3) :
    Con l Z (⟨"com/example/bones_of_bytecode/bonesofbytecode/DecodedStrings", "keep", "(JLjava/lang/String;)V"⟩ : MethodName) prog_26_method_3_code 8 none [] ({ frames := 2, cells := 0, slots := 0, locals := 27 } : Room) #[(.ref x0), (.long x1), (.ref x2)] h0 (fun v h L => v = none ∧ Fr n0 L ∧ Keep h0 h [x0, ka, ia] ∧ Fld Z h x0 "com/example/bones_of_bytecode/bonesofbytecode/DecodedStrings" "kept" "[Ljava/lang/String;" (.ref ka) ∧ Fld Z h x0 "com/example/bones_of_bytecode/bonesofbytecode/DecodedStrings" "indices" "[J" (.ref ia) ∧ Fld Z h x0 "com/example/bones_of_bytecode/bonesofbytecode/DecodedStrings" "units" "J" (.long (un - (1 : Int32).toInt64 + (1 : Int32).toInt64)) ∧ Cls h ka kk ∧ Ary Z h ka (.object "java/lang/String") SZ (fun t => if t = t0 then .ref x2 else kv t) ∧ Ary Z h ia .long SZ (fun t => .long (Jvm.OwnK.upd iv t0 x1 t))) := by
  refine Con.of (plainFor_of_name pn_3) ?_
  intro p e s m below meth c s₁ X0 hx hby hml hown hnm hret hlk hZ e0
  refine End.cast ?_ (ef_10r m x0 x1 x2)
  have N0 := Fr.nil n0
  refine k_lloadN X0 hx (q := 1) rfl (hb hby d10_0) rfl ?_
  refine k_l2i X0 hx (q := 2) rfl (hb hby d10_1) ?_
  refine k_aloadN X0 hx (q := 3) rfl (hb hby d10_2) rfl rfl ?_
  refine k_getF X0 hx hZ (host := "") hown (Or.inl (hw _ (List.mem_of_getElem? (i := 47) rfl))) Via.refl e0 (q := 6) rfl (hb hby d10_3) F_kept ?_
  intro T1 X1 e1
  refine k_al X1 hx hZ e1 (z := SZ.toInt32) (q := 7) rfl (hb hby d10_6) VK rfl ?_
  refine k_iconst X1 hx (v := (1 : Int32)) rfl (q := 8) rfl (hb hby d10_7) ?_
  refine k_isub X1 hx (q := 9) rfl (hb hby d10_8) ?_
  refine k_iand X1 hx (q := 10) rfl (hb hby d10_9) ?_
  refine k_istore X1 hx (L' := #[.val (.ref x0), .val (.long x1), .second, .val (.ref x2), .val (.int (x1.toInt32 &&& (SZ.toInt32 - (1 : Int32)))), .unset, .unset, .unset]) (q := 12) rfl (hb hby d10_10) rfl ?_
  refine k_aloadN X1 hx (q := 13) rfl (hb hby d10_12) rfl rfl ?_
  refine k_getF X1 hx hZ (host := "") hown (Or.inl (hw _ (List.mem_of_getElem? (i := 47) rfl))) Via.refl e1 (q := 16) rfl (hb hby d10_13) F_kept ?_
  intro T2 X2 e2
  refine k_iload X2 hx (q := 18) rfl (hb hby d10_16) rfl ?_
  refine k_arR X2 hx hZ e2 (x := (.ref x3)) t0 (q := 19) rfl (hb hby d10_18) VK rfl hix ht0 hold ?_
  refine k_astore X2 hx (L' := #[.val (.ref x0), .val (.long x1), .second, .val (.ref x2), .val (.int (x1.toInt32 &&& (SZ.toInt32 - (1 : Int32)))), .val (.ref x3), .unset, .unset]) (q := 21) rfl (hb hby d10_19) rfl rfl ?_
  refine k_aloadN X2 hx (q := 22) rfl (hb hby d10_21) rfl rfl ?_
  refine k_getF X2 hx hZ (host := "") hown (Or.inl (hw _ (List.mem_of_getElem? (i := 62) rfl))) Via.refl e2 (q := 25) rfl (hb hby d10_22) F_units ?_
  intro T3 X3 e3
  refine k_aload X3 hx (q := 27) rfl (hb hby d10_25) rfl rfl ?_
  refine k_ifnonnull_y X3 hx (q := 34) (by decide) (by decide) (hb hby d10_27) ?_
  refine k_aload X3 hx (q := 36) rfl (hb hby d10_34) rfl rfl ?_
  refine k_callV X3 hx hZ (y := (⟨"java/lang/String", "length", "()I"⟩ : MethodName)) (z := (⟨"java/lang/String", "length", "()I"⟩ : MethodName)) hown (hw _ (List.mem_of_getElem? (i := 64) rfl)) (hw _ (List.mem_of_getElem? (i := 65) rfl)) (notFace_of_selects (args := #[]) (mvT hZ (hw _ (List.mem_of_getElem? (i := 67) rfl)))) (hw _ (List.mem_of_getElem? (i := 67) rfl)) (hw _ (List.mem_of_getElem? (i := 66) rfl)) (hw _ (List.mem_of_getElem? (i := 68) rfl)) (hw _ (List.mem_of_getElem? (i := 9) rfl)) (by decide) E3 2 e3 (rm11 l Z a0 hw x3 h0 n0 cs hcs hS F32 E3 b3 F31 1 _ V3) (by decide) (by decide) (by decide) (by decide) (by rw [hml]; rfl) (a := x3) (as := []) (rest := [(.long un)]) pd_5 rfl (by first | exact Nat.le_refl _ | simp [Value.category]) (q := 39) rfl (hb hby d10_36) ?_
  rintro _ T4 L4 X4 ⟨rfl, N4q, e4⟩
  have N4 := Fr.app N0 N4q
  show End _ _ _ _ _ _ _ (T4.setTop (mkF m 39 #[.val (.ref x0), .val (.long x1), .second, .val (.ref x2), .val (.int (x1.toInt32 &&& (SZ.toInt32 - (1 : Int32)))), .val (.ref x3), .unset, .unset] [(.int (1 : Nat).toInt32), (.long un)]))
  rw [show (1 : Nat).toInt32 = (1 : Int32) from by decide]
  show End _ _ _ _ _ _ _ (T4.setTop (mkF m 39 #[.val (.ref x0), .val (.long x1), .second, .val (.ref x2), .val (.int (x1.toInt32 &&& (SZ.toInt32 - (1 : Int32)))), .val (.ref x3), .unset, .unset] [(.int (1 : Int32)), (.long un)]))
  refine k_i2l X4 hx (q := 40) rfl (hb hby d10_39) ?_
  refine k_lsub X4 hx (q := 41) rfl (hb hby d10_40) ?_
  refine k_aloadN X4 hx (q := 42) rfl (hb hby d10_41) rfl rfl ?_
  refine k_callV X4 hx hZ (y := (⟨"java/lang/String", "length", "()I"⟩ : MethodName)) (z := (⟨"java/lang/String", "length", "()I"⟩ : MethodName)) hown (hw _ (List.mem_of_getElem? (i := 64) rfl)) (hw _ (List.mem_of_getElem? (i := 65) rfl)) (notFace_of_selects (args := #[]) (mvT hZ (hw _ (List.mem_of_getElem? (i := 67) rfl)))) (hw _ (List.mem_of_getElem? (i := 67) rfl)) (hw _ (List.mem_of_getElem? (i := 66) rfl)) (hw _ (List.mem_of_getElem? (i := 68) rfl)) (hw _ (List.mem_of_getElem? (i := 9) rfl)) (by decide) E2 2 e4 (rm11 l Z a0 hw x2 h0 n0 cs hcs hS F22 E2 b2 F21 1 _ V2) (by decide) (by decide) (by decide) (by decide) (by rw [hml]; rfl) (a := x2) (as := []) (rest := [(.long (un - (1 : Int32).toInt64))]) pd_5 rfl (by first | exact Nat.le_refl _ | simp [Value.category]) (q := 45) rfl (hb hby d10_42) ?_
  rintro _ T5 L5 X5 ⟨rfl, N5q, e5⟩
  have N5 := Fr.app N4 N5q
  show End _ _ _ _ _ _ _ (T5.setTop (mkF m 45 #[.val (.ref x0), .val (.long x1), .second, .val (.ref x2), .val (.int (x1.toInt32 &&& (SZ.toInt32 - (1 : Int32)))), .val (.ref x3), .unset, .unset] [(.int (1 : Nat).toInt32), (.long (un - (1 : Int32).toInt64))]))
  rw [show (1 : Nat).toInt32 = (1 : Int32) from by decide]
  show End _ _ _ _ _ _ _ (T5.setTop (mkF m 45 #[.val (.ref x0), .val (.long x1), .second, .val (.ref x2), .val (.int (x1.toInt32 &&& (SZ.toInt32 - (1 : Int32)))), .val (.ref x3), .unset, .unset] [(.int (1 : Int32)), (.long (un - (1 : Int32).toInt64))]))
  refine k_i2l X5 hx (q := 46) rfl (hb hby d10_45) ?_
  refine k_ladd X5 hx (q := 47) rfl (hb hby d10_46) ?_
  refine k_lstore X5 hx (L' := #[.val (.ref x0), .val (.long x1), .second, .val (.ref x2), .val (.int (x1.toInt32 &&& (SZ.toInt32 - (1 : Int32)))), .val (.ref x3), .val (.long ((un - (1 : Int32).toInt64) + (1 : Int32).toInt64)), .second]) (q := 49) rfl (hb hby d10_47) rfl ?_
  refine k_aloadN X5 hx (q := 50) rfl (hb hby d10_49) rfl rfl ?_
  refine k_callV X5 hx hZ (y := (⟨"java/lang/String", "length", "()I"⟩ : MethodName)) (z := (⟨"java/lang/String", "length", "()I"⟩ : MethodName)) hown (hw _ (List.mem_of_getElem? (i := 64) rfl)) (hw _ (List.mem_of_getElem? (i := 65) rfl)) (notFace_of_selects (args := #[]) (mvT hZ (hw _ (List.mem_of_getElem? (i := 67) rfl)))) (hw _ (List.mem_of_getElem? (i := 67) rfl)) (hw _ (List.mem_of_getElem? (i := 66) rfl)) (hw _ (List.mem_of_getElem? (i := 68) rfl)) (hw _ (List.mem_of_getElem? (i := 9) rfl)) (by decide) E2 0 e5 (rm11 l Z a0 hw x2 h0 n0 cs hcs hS F22 E2 b2 F21 1 _ V2) (by decide) (by decide) (by decide) (by decide) (by rw [hml]; rfl) (a := x2) (as := []) (rest := []) pd_5 rfl (by first | exact Nat.le_refl _ | simp [Value.category]) (q := 53) rfl (hb hby d10_50) ?_
  rintro _ T6 L6 X6 ⟨rfl, N6q, e6⟩
  have N6 := Fr.app N5 N6q
  show End _ _ _ _ _ _ _ (T6.setTop (mkF m 53 #[.val (.ref x0), .val (.long x1), .second, .val (.ref x2), .val (.int (x1.toInt32 &&& (SZ.toInt32 - (1 : Int32)))), .val (.ref x3), .val (.long ((un - (1 : Int32).toInt64) + (1 : Int32).toInt64)), .second] [(.int (1 : Nat).toInt32)]))
  rw [show (1 : Nat).toInt32 = (1 : Int32) from by decide]
  show End _ _ _ _ _ _ _ (T6.setTop (mkF m 53 #[.val (.ref x0), .val (.long x1), .second, .val (.ref x2), .val (.int (x1.toInt32 &&& (SZ.toInt32 - (1 : Int32)))), .val (.ref x3), .val (.long ((un - (1 : Int32).toInt64) + (1 : Int32).toInt64)), .second] [(.int (1 : Int32))]))
  refine k_sipush X6 hx (v := (1024 : Int32)) rfl (q := 56) rfl (hb hby d10_53) ?_
  refine k_icmp_gt X6 hx (q1 := 90) (q := 59) (by decide) (by decide) rfl (hb hby d10_56) (fun hc => absurd hc (by decide)) (fun _ => ?_)
  refine k_lload X6 hx (q := 61) rfl (hb hby d10_59) rfl ?_
  refine k_ldc2J X6 hx hZ (v := (2097152 : Int64)) hown (hw _ (List.mem_of_getElem? (i := 74) rfl)) (q := 64) rfl (hb hby d10_61) ?_
  refine k_lcmp_gt X6 hx (q1 := 90) (q := 68) (by decide) (by decide) rfl (hb hby d10_64) (hb hby d10_65) (fun hc => absurd hc hun) (fun _ => ?_)
  refine k_aloadN X6 hx (q := 69) rfl (hb hby d10_68) rfl rfl ?_
  refine k_getF X6 hx hZ (host := "") hown (Or.inl (hw _ (List.mem_of_getElem? (i := 47) rfl))) Via.refl e6 (q := 72) rfl (hb hby d10_69) F_kept ?_
  intro T9 X9 e9
  refine k_iload X9 hx (q := 74) rfl (hb hby d10_72) rfl ?_
  refine k_aloadN X9 hx (q := 75) rfl (hb hby d10_74) rfl rfl ?_
  have St := Sto.ofA VK CK OK (Ins.self E2)
  refine k_asR X9 hx hZ e9 t0 (q := 76) rfl (hb hby d10_75) VK hix ht0 rfl St ?_
  intro T10 h10 X10 e10 W10 V10
  have K10 := Keep.of_wr W10
  have N10 := Fr.snoc X10 N6 gk
  refine k_aloadN X10 hx (q := 77) rfl (hb hby d10_76) rfl rfl ?_
  have Gu11 := (F_indices.keep K10 (ninS (Ne.symm nk) nin0))
  refine k_getF X10 hx hZ (host := "") hown (Or.inl (hw _ (List.mem_of_getElem? (i := 50) rfl))) Via.refl e10 (q := 80) rfl (hb hby d10_77) Gu11 ?_
  intro T12 X12 e12
  refine k_iload X12 hx (q := 82) rfl (hb hby d10_80) rfl ?_
  refine k_lloadN X12 hx (q := 83) rfl (hb hby d10_82) rfl ?_
  have Gu13 := (VI.keep K10 (ninS (Ne.symm nki) nin0))
  refine k_asJ X12 hx hZ e12 t0 (q := 84) rfl (hb hby d10_83) Gu13 hix ht0 ?_
  intro T14 h14 X14 e14 W14 V14
  have K14 := Keep.of_wr W14
  have N14 := Fr.snoc X14 N10 gi
  refine k_aloadN X14 hx (q := 85) rfl (hb hby d10_84) rfl rfl ?_
  refine k_lload X14 hx (q := 87) rfl (hb hby d10_85) rfl ?_
  have Gu15 := ((F_units.keep K10 (ninS (Ne.symm nk) nin0)).keep K14 (ninS (Ne.symm ni) nin0))
  have Gu16 := ((E0.keep K10).keep K14)
  refine k_putF X14 hx hZ (host := "") hown (Or.inl (hw _ (List.mem_of_getElem? (i := 62) rfl))) Via.refl e14 (Or.inl (hw _ (List.mem_of_getElem? (i := 63) rfl))) (hw _ (List.mem_of_getElem? (i := 38) rfl)) (ty := .long) (by decide) rfl rfl (q := 90) rfl (hb hby d10_87) Gu15 Gu16 ?_
  intro T17 h17 X17 e17 W17
  have K17 := Keep.of_wr W17
  have N17 := Fr.snoc X17 N14 ga
  have Fw17 := (Gu15).same W17
  have Kp18 : Keep h0 h10 [x0, ka, ia] := Keep.trans (Keep.refl h0 [x0, ka, ia]) K10 (allS (Or.inl (List.mem_of_getElem? (i := 1) rfl)) all0)
  have Kp19 : Keep h0 h14 [x0, ka, ia] := Keep.trans Kp18 K14 (allS (Or.inl (List.mem_of_getElem? (i := 2) rfl)) all0)
  have Kp20 : Keep h0 h17 [x0, ka, ia] := Keep.trans Kp19 K17 (allS (Or.inl (List.mem_of_getElem? (i := 0) rfl)) all0)
  have Gu21 := (((F_kept.keep K10 (ninS (Ne.symm nk) nin0)).keep K14 (ninS (Ne.symm ni) nin0)).other W17 (Or.inr (slot_ne (t := (.array (.object "java/lang/String"))) (t' := .long) (Or.inr (hw _ (List.mem_of_getElem? (i := 48) rfl))) (Or.inl (hw _ (List.mem_of_getElem? (i := 63) rfl))) (by decide) (by decide) (by decide))))
  have Gu22 := ((Gu11.keep K14 (ninS (Ne.symm ni) nin0)).other W17 (Or.inr (slot_ne (t := (.array .long)) (t' := .long) (Or.inr (hw _ (List.mem_of_getElem? (i := 51) rfl))) (Or.inl (hw _ (List.mem_of_getElem? (i := 63) rfl))) (by decide) (by decide) (by decide))))
  have Gu23 := (((CK.keep K10).keep K14).keep K17)
  have Gu24 := ((V10.keep K14 (ninS nki nin0)).keep K17 (ninS nk nin0))
  have Gu25 := (V14.keep K17 (ninS ni nin0))
  exact k_retV X17 hx hlk (by decide) (by decide) hret (hb hby d10_90) ⟨rfl, N17, by rw [e17]; exact Kp20, by rw [e17]; exact Gu21, by rw [e17]; exact Gu22, by rw [e17]; exact Fw17, by rw [e17]; exact Gu23, by rw [e17]; exact Gu24, by rw [e17]; exact Gu25.congr fun t _ => by unfold Jvm.OwnK.upd; by_cases q : t = t0 <;> simp only [q, if_true, if_false]⟩
theorem ef_0 (m : MethodId) (x0 : Int64) (x1 : Int64) (x2 : Int64) (x3 : Int64) (x4 : Int32) (x5 : Int32) : entryFrame m #[(.long x0), (.long x1), (.long x2), (.long x3), (.int x4), (.int x5)] maxLocals = mkF m 0 #[.val (.long x0), .second, .val (.long x1), .second, .val (.long x2), .second, .val (.long x3), .second, .val (.int x4), .val (.int x5), .unset, .unset, .unset, .unset, .unset, .unset, .unset, .unset, .unset, .unset, .unset, .unset, .unset, .unset, .unset, .unset, .unset, .unset, .unset, .unset, .unset, .unset, .unset] [] := by first | (simp [entryFrame, mkF, argsToLocals, Value.category, maxLocals]; done) | rfl
set_option maxRecDepth 65536 in
set_option maxHeartbeats 40000000 in
theorem rmL (l : Launch) (Z : State) (a0 : Array Value) (hw : ∀ d ∈ tables_1, d.before a0 Z = true) (x0 : Int64) (x1 : Int64) (x2 : Int64) (x3 : Int64) (x4 : Int32) (x5 : Int32) (h0 : Heap) (n0 : Nat) (Z0 : n0 ≤ h0.size) (O0 : Old Z n0 h0) (cs : Int32) (hcs : ¬ cs = (0 : Int32)) (hS : Sta Z Z.heap "java/lang/String" "COMPACT_STRINGS" "Z" (.int cs)) :
    Con l Z x code maxLocals ret tables_1 room_1 #[(.long x0), (.long x1), (.long x2), (.long x3), (.int x4), (.int x5)] h0 (fun v h L => v = some (.int 1) ∧ Fr n0 L) := by
  refine Con.of (plainFor_of_name pn_2) ?_
  intro p e s m below meth c s₁ X0 hx hby hml hown hnm hret hlk hZ e0
  refine End.cast ?_ (ef_0 m x0 x1 x2 x3 x4 x5)
  have N0 := Fr.nil n0
  have J1 : ∀ (cn : Int64), End p e below s (fun v h L => v = some (.int 1) ∧ Fr n0 L) room_1.cells room_1.slots (s₁.setTop (mkF m 28 #[.val (.long x0), .second, .val (.long x1), .second, .val (.long x2), .second, .val (.long x3), .second, .val (.int x4), .val (.int x5), .unset, .unset, .unset, .unset, .unset, .unset, .unset, .unset, .unset, .unset, .unset, .unset, .unset, .unset, .unset, .unset, .unset, .unset, .unset, .unset, .unset, .unset, .unset] [(.long cn)])) := by
    intro cn
    refine k_lstore X0 hx (L' := #[.val (.long x0), .second, .val (.long x1), .second, .val (.long x2), .second, .val (.long x3), .second, .val (.int x4), .val (.int x5), .val (.long cn), .second, .unset, .unset, .unset, .unset, .unset, .unset, .unset, .unset, .unset, .unset, .unset, .unset, .unset, .unset, .unset, .unset, .unset, .unset, .unset, .unset, .unset]) (q := 30) rfl (hb hby at_28) rfl ?_
    refine k_lload X0 hx (q := 32) rfl (hb hby at_30) rfl ?_
    refine k_callS X0 hx hZ (y := (⟨"com/example/bones_of_bytecode/bonesofbytecode/DecodedStringsGetPinLaw", "slotsFor", "(J)I"⟩ : MethodName)) hown (hw _ (List.mem_of_getElem? (i := 1) rfl)) (hw _ (List.mem_of_getElem? (i := 2) rfl)) (hw _ (List.mem_of_getElem? (i := 3) rfl)) (hw _ (List.mem_of_getElem? (i := 4) rfl)) (by decide) 0 e0 (rm1 l Z a0 hw cn h0 n0) (by decide) (by decide) (by decide) (by decide) (by rw [hml]; rfl) (as := [(.long cn)]) (rest := []) pd_6 rfl (by first | exact Nat.le_refl _ | simp [Value.category]) (q := 35) rfl (hb hby at_32) ?_
    rintro _ T3 L3 X3 ⟨rfl, N3q, e3⟩
    have N3 := Fr.app N0 N3q
    show End _ _ _ _ _ _ _ (T3.setTop (mkF m 35 #[.val (.long x0), .second, .val (.long x1), .second, .val (.long x2), .second, .val (.long x3), .second, .val (.int x4), .val (.int x5), .val (.long cn), .second, .unset, .unset, .unset, .unset, .unset, .unset, .unset, .unset, .unset, .unset, .unset, .unset, .unset, .unset, .unset, .unset, .unset, .unset, .unset, .unset, .unset] [(.int (f1 cn))]))
    refine k_istore X3 hx (L' := #[.val (.long x0), .second, .val (.long x1), .second, .val (.long x2), .second, .val (.long x3), .second, .val (.int x4), .val (.int x5), .val (.long cn), .second, .val (.int (f1 cn)), .unset, .unset, .unset, .unset, .unset, .unset, .unset, .unset, .unset, .unset, .unset, .unset, .unset, .unset, .unset, .unset, .unset, .unset, .unset, .unset]) (q := 37) rfl (hb hby at_35) rfl ?_
    refine k_iload X3 hx (q := 39) rfl (hb hby at_37) rfl ?_
    refine k_bipush X3 hx (v := (8 : Int32)) rfl (q := 41) rfl (hb hby at_39) ?_
    refine k_iushr X3 hx (q := 42) rfl (hb hby at_41) ?_
    refine k_iconst X3 hx (v := (1 : Int32)) rfl (q := 43) rfl (hb hby at_42) ?_
    refine k_iand X3 hx (q := 44) rfl (hb hby at_43) ?_
    have J4 : ∀ (j : Int64), End p e below s (fun v h L => v = some (.int 1) ∧ Fr n0 L) room_1.cells room_1.slots (T3.setTop (mkF m 59 #[.val (.long x0), .second, .val (.long x1), .second, .val (.long x2), .second, .val (.long x3), .second, .val (.int x4), .val (.int x5), .val (.long cn), .second, .val (.int (f1 cn)), .unset, .unset, .unset, .unset, .unset, .unset, .unset, .unset, .unset, .unset, .unset, .unset, .unset, .unset, .unset, .unset, .unset, .unset, .unset, .unset] [(.long j)])) := by
      intro j
      refine k_lstore X3 hx (L' := #[.val (.long x0), .second, .val (.long x1), .second, .val (.long x2), .second, .val (.long x3), .second, .val (.int x4), .val (.int x5), .val (.long cn), .second, .val (.int (f1 cn)), .val (.long j), .second, .unset, .unset, .unset, .unset, .unset, .unset, .unset, .unset, .unset, .unset, .unset, .unset, .unset, .unset, .unset, .unset, .unset, .unset]) (q := 61) rfl (hb hby at_59) rfl ?_
      refine k_iload X3 hx (q := 63) rfl (hb hby at_61) rfl ?_
      refine k_bipush X3 hx (v := (8 : Int32)) rfl (q := 65) rfl (hb hby at_63) ?_
      refine k_iushr X3 hx (q := 66) rfl (hb hby at_65) ?_
      refine k_iconst X3 hx (v := (3 : Int32)) rfl (q := 67) rfl (hb hby at_66) ?_
      refine k_iand X3 hx (q := 68) rfl (hb hby at_67) ?_
      refine k_istore X3 hx (L' := #[.val (.long x0), .second, .val (.long x1), .second, .val (.long x2), .second, .val (.long x3), .second, .val (.int x4), .val (.int x5), .val (.long cn), .second, .val (.int (f1 cn)), .val (.long j), .second, .val (.int (((x5.toUInt32 >>> ((8 : Int32) &&& 31).toUInt32).toInt32) &&& (3 : Int32))), .unset, .unset, .unset, .unset, .unset, .unset, .unset, .unset, .unset, .unset, .unset, .unset, .unset, .unset, .unset, .unset, .unset]) (q := 70) rfl (hb hby at_68) rfl ?_
      refine k_iload X3 hx (q := 72) rfl (hb hby at_70) rfl ?_
      have J6 : ∀ (k : Int64), End p e below s (fun v h L => v = some (.int 1) ∧ Fr n0 L) room_1.cells room_1.slots (T3.setTop (mkF m 116 #[.val (.long x0), .second, .val (.long x1), .second, .val (.long x2), .second, .val (.long x3), .second, .val (.int x4), .val (.int x5), .val (.long cn), .second, .val (.int (f1 cn)), .val (.long j), .second, .val (.int (((x5.toUInt32 >>> ((8 : Int32) &&& 31).toUInt32).toInt32) &&& (3 : Int32))), .val (.long k), .second, .unset, .unset, .unset, .unset, .unset, .unset, .unset, .unset, .unset, .unset, .unset, .unset, .unset, .unset, .unset] [])) := by
        intro k
        refine k_new X3 hx hZ hown (hw _ (List.mem_of_getElem? (i := 7) rfl)) (hw _ (List.mem_of_getElem? (i := 8) rfl)) (hw _ (List.mem_of_getElem? (i := 9) rfl)) e3 (q := 119) rfl (hb hby at_116) (by decide) (by decide) ?_
        intro T10 h10 s1 X10 e10 g10 E10 A10 D10
        have K10 := Keep.of_ext E10
        have F11 : Fld Z h10 s1 "java/lang/String" "coder" "B" (.int (0 : Int32)) := D10 (Or.inr (hw _ (List.mem_of_getElem? (i := 34) rfl))) (ty := .byte) (by decide)
        have F12 : Fld Z h10 s1 "java/lang/String" "value" "[B" .null := D10 (Or.inr (hw _ (List.mem_of_getElem? (i := 36) rfl))) (ty := (.array .byte)) (by decide)
        refine k_dup X10 hx (q := 120) rfl (hb hby at_119) rfl ?_
        refine k_iconst X10 hx (v := (1 : Int32)) rfl (q := 121) rfl (hb hby at_120) ?_
        refine k_newP X10 hx hZ (hw _ (List.mem_of_getElem? (i := 10) rfl)) e10 (q := 123) rfl (hb hby at_121) (by decide) (cap := 1) (by decide) (by decide) (by decide) (by decide) ?_
        intro T13 h13 cs1 k13 X13 e13 g13 E13 A13
        have K13 := Keep.of_ext E13
        have V13 : Ary Z h13 cs1 .char 1 (fun _ => .int (0 : Int32)) := Ary.new A13 (by decide) rfl
        refine k_dup X13 hx (q := 124) rfl (hb hby at_123) rfl ?_
        refine k_iconst X13 hx (v := (0 : Int32)) rfl (q := 125) rfl (hb hby at_124) ?_
        refine k_iload X13 hx (q := 127) rfl (hb hby at_125) rfl ?_
        refine k_sipush X13 hx (v := (255 : Int32)) rfl (q := 130) rfl (hb hby at_127) ?_
        refine k_iand X13 hx (q := 131) rfl (hb hby at_130) ?_
        refine k_i2c X13 hx (q := 132) rfl (hb hby at_131) ?_
        have Sz15 : n0 ≤ h10.size := Nat.le_trans Z0 K10.1
        have ge_cs1 : n0 ≤ cs1 := Nat.le_trans Sz15 (Nat.le_of_eq g13.symm)
        refine k_asC X13 hx hZ e13 0 (q := 133) rfl (hb hby at_132) V13 ⟨by decide, by decide⟩ (by decide) ?_
        intro T14 h14 X14 e14 W14 V14
        have K14 := Keep.of_wr W14
        have N14 := Fr.snoc X14 N3 ge_cs1
        have Vcs1 : Ary Z h14 cs1 .char 1 (fun t => .int ((fun _ => nar .char (x4 &&& (255 : Int32)).toUInt32.toUInt16.toUInt32.toInt32) t)) := V14.congr fun t ht => by
          have q : t = 0 := by omega
          rw [if_pos q]
        have Od16 : Old Z n0 h10 := Old.keep O0 K10 all0
        have Od17 : Old Z n0 h13 := Old.keep Od16 K13 all0
        have Od18 : Old Z n0 h14 := Old.keep Od17 K14 (allS ge_cs1 all0)
        have Sz20 : n0 ≤ h13.size := Nat.le_trans Sz15 K13.1
        have Sz19 : n0 ≤ h14.size := Nat.le_trans Sz20 K14.1
        have ge_s1 : n0 ≤ s1 := Nat.le_trans Z0 (Nat.le_of_eq g10.symm)
        have Gu21 := ((A10.keep K13).keep K14)
        have ne_s1_cs1 : s1 ≠ cs1 := Nat.ne_of_lt (Nat.lt_of_lt_of_le (A10).lt (Nat.le_of_eq g13.symm))
        have Gu22 := ((F12.keep K13 nin0).keep K14 (ninS ne_s1_cs1 nin0))
        have Gu23 := ((F11.keep K13 nin0).keep K14 (ninS ne_s1_cs1 nin0))
        refine k_callI X14 hx hZ (y := (⟨"java/lang/String", "<init>", "([C)V"⟩ : MethodName)) hown rfl (hw _ (List.mem_of_getElem? (i := 11) rfl)) (hw _ (List.mem_of_getElem? (i := 12) rfl)) (hw _ (List.mem_of_getElem? (i := 9) rfl)) (hw _ (List.mem_of_getElem? (i := 13) rfl)) (by decide) 1 e14 (rm2 l Z a0 hw s1 cs1 h14 n0 Sz19 1 (by decide) (by decide) (fun _ => nar .char (x4 &&& (255 : Int32)).toUInt32.toUInt16.toUInt32.toInt32) (fun _ _ => own_char x4) (by decide) cs hcs (hS.ext Od18.2) ge_s1 Gu21 Gu22 Gu23 Vcs1) (by decide) (by decide) (by decide) (by decide) (by rw [hml]; rfl) (a := s1) (as := [(.ref cs1)]) (rest := [(.ref s1)]) pd_7 rfl (by first | exact Nat.le_refl _ | simp [Value.category]) (q := 136) rfl (hb hby at_133) ?_
        rintro _ T24 L24 X24 ⟨rfl, N24q, K24, bs1, le24, G124, G224, V24⟩
        have N24 := Fr.app N14 N24q
        show End _ _ _ _ _ _ _ (T24.setTop (mkF m 136 #[.val (.long x0), .second, .val (.long x1), .second, .val (.long x2), .second, .val (.long x3), .second, .val (.int x4), .val (.int x5), .val (.long cn), .second, .val (.int (f1 cn)), .val (.long j), .second, .val (.int (((x5.toUInt32 >>> ((8 : Int32) &&& 31).toUInt32).toInt32) &&& (3 : Int32))), .val (.long k), .second, .unset, .unset, .unset, .unset, .unset, .unset, .unset, .unset, .unset, .unset, .unset, .unset, .unset, .unset, .unset] [(.ref s1)]))
        refine k_astore X24 hx (L' := #[.val (.long x0), .second, .val (.long x1), .second, .val (.long x2), .second, .val (.long x3), .second, .val (.int x4), .val (.int x5), .val (.long cn), .second, .val (.int (f1 cn)), .val (.long j), .second, .val (.int (((x5.toUInt32 >>> ((8 : Int32) &&& 31).toUInt32).toInt32) &&& (3 : Int32))), .val (.long k), .second, .val (.ref s1), .unset, .unset, .unset, .unset, .unset, .unset, .unset, .unset, .unset, .unset, .unset, .unset, .unset, .unset]) (q := 138) rfl (hb hby at_136) rfl rfl ?_
        refine k_new X24 hx hZ hown (hw _ (List.mem_of_getElem? (i := 7) rfl)) (hw _ (List.mem_of_getElem? (i := 8) rfl)) (hw _ (List.mem_of_getElem? (i := 9) rfl)) rfl (q := 141) rfl (hb hby at_138) (by decide) (by decide) ?_
        intro T25 h25 s2 X25 e25 g25 E25 A25 D25
        have K25 := Keep.of_ext E25
        have F26 : Fld Z h25 s2 "java/lang/String" "coder" "B" (.int (0 : Int32)) := D25 (Or.inr (hw _ (List.mem_of_getElem? (i := 34) rfl))) (ty := .byte) (by decide)
        have F27 : Fld Z h25 s2 "java/lang/String" "value" "[B" .null := D25 (Or.inr (hw _ (List.mem_of_getElem? (i := 36) rfl))) (ty := (.array .byte)) (by decide)
        refine k_dup X25 hx (q := 142) rfl (hb hby at_141) rfl ?_
        refine k_iconst X25 hx (v := (1 : Int32)) rfl (q := 143) rfl (hb hby at_142) ?_
        refine k_newP X25 hx hZ (hw _ (List.mem_of_getElem? (i := 10) rfl)) e25 (q := 145) rfl (hb hby at_143) (by decide) (cap := 1) (by decide) (by decide) (by decide) (by decide) ?_
        intro T28 h28 cs2 k28 X28 e28 g28 E28 A28
        have K28 := Keep.of_ext E28
        have V28 : Ary Z h28 cs2 .char 1 (fun _ => .int (0 : Int32)) := Ary.new A28 (by decide) rfl
        refine k_dup X28 hx (q := 146) rfl (hb hby at_145) rfl ?_
        refine k_iconst X28 hx (v := (0 : Int32)) rfl (q := 147) rfl (hb hby at_146) ?_
        refine k_iload X28 hx (q := 149) rfl (hb hby at_147) rfl ?_
        refine k_sipush X28 hx (v := (255 : Int32)) rfl (q := 152) rfl (hb hby at_149) ?_
        refine k_iand X28 hx (q := 153) rfl (hb hby at_152) ?_
        refine k_i2c X28 hx (q := 154) rfl (hb hby at_153) ?_
        have Sz31 : n0 ≤ T24.heap.size := Nat.le_trans Sz19 K24.1
        have Sz30 : n0 ≤ h25.size := Nat.le_trans Sz31 K25.1
        have ge_cs2 : n0 ≤ cs2 := Nat.le_trans Sz30 (Nat.le_of_eq g28.symm)
        refine k_asC X28 hx hZ e28 0 (q := 155) rfl (hb hby at_154) V28 ⟨by decide, by decide⟩ (by decide) ?_
        intro T29 h29 X29 e29 W29 V29
        have K29 := Keep.of_wr W29
        have N29 := Fr.snoc X29 N24 ge_cs2
        have Vcs2 : Ary Z h29 cs2 .char 1 (fun t => .int ((fun _ => nar .char (x5 &&& (255 : Int32)).toUInt32.toUInt16.toUInt32.toInt32) t)) := V29.congr fun t ht => by
          have q : t = 0 := by omega
          rw [if_pos q]
        have Od32 : Old Z n0 T24.heap := Old.keep Od18 K24 (allS ge_s1 all0)
        have Od33 : Old Z n0 h25 := Old.keep Od32 K25 all0
        have Od34 : Old Z n0 h28 := Old.keep Od33 K28 all0
        have Od35 : Old Z n0 h29 := Old.keep Od34 K29 (allS ge_cs2 all0)
        have Sz37 : n0 ≤ h28.size := Nat.le_trans Sz30 K28.1
        have Sz36 : n0 ≤ h29.size := Nat.le_trans Sz37 K29.1
        have ge_s2 : n0 ≤ s2 := Nat.le_trans Sz31 (Nat.le_of_eq g25.symm)
        have Gu38 := ((A25.keep K28).keep K29)
        have ne_s2_cs2 : s2 ≠ cs2 := Nat.ne_of_lt (Nat.lt_of_lt_of_le (A25).lt (Nat.le_of_eq g28.symm))
        have Gu39 := ((F27.keep K28 nin0).keep K29 (ninS ne_s2_cs2 nin0))
        have Gu40 := ((F26.keep K28 nin0).keep K29 (ninS ne_s2_cs2 nin0))
        refine k_callI X29 hx hZ (y := (⟨"java/lang/String", "<init>", "([C)V"⟩ : MethodName)) hown rfl (hw _ (List.mem_of_getElem? (i := 11) rfl)) (hw _ (List.mem_of_getElem? (i := 12) rfl)) (hw _ (List.mem_of_getElem? (i := 9) rfl)) (hw _ (List.mem_of_getElem? (i := 13) rfl)) (by decide) 1 e29 (rm2 l Z a0 hw s2 cs2 h29 n0 Sz36 1 (by decide) (by decide) (fun _ => nar .char (x5 &&& (255 : Int32)).toUInt32.toUInt16.toUInt32.toInt32) (fun _ _ => own_char x5) (by decide) cs hcs (hS.ext Od35.2) ge_s2 Gu38 Gu39 Gu40 Vcs2) (by decide) (by decide) (by decide) (by decide) (by rw [hml]; rfl) (a := s2) (as := [(.ref cs2)]) (rest := [(.ref s2)]) pd_7 rfl (by first | exact Nat.le_refl _ | simp [Value.category]) (q := 158) rfl (hb hby at_155) ?_
        rintro _ T41 L41 X41 ⟨rfl, N41q, K41, bs2, le41, G141, G241, V41⟩
        have N41 := Fr.app N29 N41q
        show End _ _ _ _ _ _ _ (T41.setTop (mkF m 158 #[.val (.long x0), .second, .val (.long x1), .second, .val (.long x2), .second, .val (.long x3), .second, .val (.int x4), .val (.int x5), .val (.long cn), .second, .val (.int (f1 cn)), .val (.long j), .second, .val (.int (((x5.toUInt32 >>> ((8 : Int32) &&& 31).toUInt32).toInt32) &&& (3 : Int32))), .val (.long k), .second, .val (.ref s1), .unset, .unset, .unset, .unset, .unset, .unset, .unset, .unset, .unset, .unset, .unset, .unset, .unset, .unset] [(.ref s2)]))
        refine k_astore X41 hx (L' := #[.val (.long x0), .second, .val (.long x1), .second, .val (.long x2), .second, .val (.long x3), .second, .val (.int x4), .val (.int x5), .val (.long cn), .second, .val (.int (f1 cn)), .val (.long j), .second, .val (.int (((x5.toUInt32 >>> ((8 : Int32) &&& 31).toUInt32).toInt32) &&& (3 : Int32))), .val (.long k), .second, .val (.ref s1), .val (.ref s2), .unset, .unset, .unset, .unset, .unset, .unset, .unset, .unset, .unset, .unset, .unset, .unset, .unset]) (q := 160) rfl (hb hby at_158) rfl rfl ?_
        refine k_new X41 hx hZ hown (hw _ (List.mem_of_getElem? (i := 37) rfl)) (hw _ (List.mem_of_getElem? (i := 38) rfl)) (hw _ (List.mem_of_getElem? (i := 39) rfl)) rfl (q := 163) rfl (hb hby at_160) (by decide) (by decide) ?_
        intro T42 h42 ds X42 e42 g42 E42 A42 D42
        have K42 := Keep.of_ext E42
        have F43 : Fld Z h42 ds "com/example/bones_of_bytecode/bonesofbytecode/DecodedStrings" "kept" "[Ljava/lang/String;" .null := D42 (Or.inr (hw _ (List.mem_of_getElem? (i := 48) rfl))) (ty := (.array (.object "java/lang/String"))) (by decide)
        have F44 : Fld Z h42 ds "com/example/bones_of_bytecode/bonesofbytecode/DecodedStrings" "indices" "[J" .null := D42 (Or.inr (hw _ (List.mem_of_getElem? (i := 51) rfl))) (ty := (.array .long)) (by decide)
        have F45 : Fld Z h42 ds "com/example/bones_of_bytecode/bonesofbytecode/DecodedStrings" "units" "J" (.long (0 : Int64)) := D42 (Or.inl (hw _ (List.mem_of_getElem? (i := 63) rfl))) (ty := .long) (by decide)
        refine k_dup X42 hx (q := 164) rfl (hb hby at_163) rfl ?_
        refine k_lload X42 hx (q := 166) rfl (hb hby at_164) rfl ?_
        have Sz47 : n0 ≤ T41.heap.size := Nat.le_trans Sz36 K41.1
        have Sz46 : n0 ≤ h42.size := Nat.le_trans Sz47 K42.1
        have ge_ds : n0 ≤ ds := Nat.le_trans Sz47 (Nat.le_of_eq g42.symm)
        refine k_callI X42 hx hZ (y := (⟨"com/example/bones_of_bytecode/bonesofbytecode/DecodedStrings", "<init>", "(J)V"⟩ : MethodName)) hown rfl (hw _ (List.mem_of_getElem? (i := 40) rfl)) (hw _ (List.mem_of_getElem? (i := 41) rfl)) (hw _ (List.mem_of_getElem? (i := 39) rfl)) (hw _ (List.mem_of_getElem? (i := 42) rfl)) (by decide) 1 e42 (rm8 l Z a0 hw ds cn h42 n0 Sz46 ge_ds A42 F43 F44 F45) (by decide) (by decide) (by decide) (by decide) (by rw [hml]; rfl) (a := ds) (as := [(.long cn)]) (rest := [(.ref ds)]) pd_8 rfl (by first | exact Nat.le_refl _ | simp [Value.category]) (q := 169) rfl (hb hby at_166) ?_
        rintro _ T48 L48 X48 ⟨rfl, N48q, K48, i, SZ, ka, ia, kk, hSZ, hi, hfs, lk48, li48, nki, Fk48, Fi48, Fu48, VK48, CK48, OK, VI48⟩
        have N48 := Fr.app N41 N48q
        show End _ _ _ _ _ _ _ (T48.setTop (mkF m 169 #[.val (.long x0), .second, .val (.long x1), .second, .val (.long x2), .second, .val (.long x3), .second, .val (.int x4), .val (.int x5), .val (.long cn), .second, .val (.int (f1 cn)), .val (.long j), .second, .val (.int (((x5.toUInt32 >>> ((8 : Int32) &&& 31).toUInt32).toInt32) &&& (3 : Int32))), .val (.long k), .second, .val (.ref s1), .val (.ref s2), .unset, .unset, .unset, .unset, .unset, .unset, .unset, .unset, .unset, .unset, .unset, .unset, .unset] [(.ref ds)]))
        have hp : SZ ≤ 65536 ∧ 1 ≤ SZ := by rw [hSZ]; exact own_pow hi
        obtain ⟨ta, hta, hxa, hla⟩ := own_ixs x1 hSZ hi
        obtain ⟨tb, htb, hxb, hlb⟩ := own_ixs j hSZ hi
        obtain ⟨tc, htc, hxc, hlc⟩ := own_ixs k hSZ hi
        refine k_astore X48 hx (L' := #[.val (.long x0), .second, .val (.long x1), .second, .val (.long x2), .second, .val (.long x3), .second, .val (.int x4), .val (.int x5), .val (.long cn), .second, .val (.int (f1 cn)), .val (.long j), .second, .val (.int (((x5.toUInt32 >>> ((8 : Int32) &&& 31).toUInt32).toInt32) &&& (3 : Int32))), .val (.long k), .second, .val (.ref s1), .val (.ref s2), .val (.ref ds), .unset, .unset, .unset, .unset, .unset, .unset, .unset, .unset, .unset, .unset, .unset, .unset]) (q := 171) rfl (hb hby at_169) rfl rfl ?_
        refine k_aload X48 hx (q := 173) rfl (hb hby at_171) rfl rfl ?_
        refine k_lload X48 hx (q := 175) rfl (hb hby at_173) rfl ?_
        have Gu50 := (A42.keep K48)
        refine k_callV X48 hx hZ (y := (⟨"com/example/bones_of_bytecode/bonesofbytecode/DecodedStrings", "get", "(J)Ljava/lang/String;"⟩ : MethodName)) (z := (⟨"com/example/bones_of_bytecode/bonesofbytecode/DecodedStrings", "get", "(J)Ljava/lang/String;"⟩ : MethodName)) hown (hw _ (List.mem_of_getElem? (i := 52) rfl)) (hw _ (List.mem_of_getElem? (i := 53) rfl)) (notFace_of_selects (args := #[]) (mvT hZ (hw _ (List.mem_of_getElem? (i := 55) rfl)))) (hw _ (List.mem_of_getElem? (i := 55) rfl)) (hw _ (List.mem_of_getElem? (i := 54) rfl)) (hw _ (List.mem_of_getElem? (i := 56) rfl)) (hw _ (List.mem_of_getElem? (i := 39) rfl)) (by decide) Gu50 0 rfl (rm9 l Z a0 hw ds k T48.heap n0 SZ ka ia (fun _ => Value.null) (fun _ => (0 : Int64)) Fk48 Fi48 VK48 VI48 (fun _ => rfl) tc htc hxc) (by decide) (by decide) (by decide) (by decide) (by rw [hml]; rfl) (a := ds) (as := [(.long k)]) (rest := []) pd_9 rfl (by first | exact Nat.le_refl _ | simp [Value.category]) (q := 178) rfl (hb hby at_175) ?_
        rintro _ T49 L49 X49 ⟨rfl, N49q, e49⟩
        have N49 := Fr.app N48 N49q
        show End _ _ _ _ _ _ _ (T49.setTop (mkF m 178 #[.val (.long x0), .second, .val (.long x1), .second, .val (.long x2), .second, .val (.long x3), .second, .val (.int x4), .val (.int x5), .val (.long cn), .second, .val (.int (f1 cn)), .val (.long j), .second, .val (.int (((x5.toUInt32 >>> ((8 : Int32) &&& 31).toUInt32).toInt32) &&& (3 : Int32))), .val (.long k), .second, .val (.ref s1), .val (.ref s2), .val (.ref ds), .unset, .unset, .unset, .unset, .unset, .unset, .unset, .unset, .unset, .unset, .unset, .unset] [(if (fun _ => (0 : Int64)) tc = k then (fun _ => Value.null) tc else .null)]))
        rw [show (if (fun _ => (0 : Int64)) tc = k then (fun _ => Value.null) tc else .null) = Value.null from ite_self _]
        show End _ _ _ _ _ _ _ (T49.setTop (mkF m 178 #[.val (.long x0), .second, .val (.long x1), .second, .val (.long x2), .second, .val (.long x3), .second, .val (.int x4), .val (.int x5), .val (.long cn), .second, .val (.int (f1 cn)), .val (.long j), .second, .val (.int (((x5.toUInt32 >>> ((8 : Int32) &&& 31).toUInt32).toInt32) &&& (3 : Int32))), .val (.long k), .second, .val (.ref s1), .val (.ref s2), .val (.ref ds), .unset, .unset, .unset, .unset, .unset, .unset, .unset, .unset, .unset, .unset, .unset, .unset] [.null]))
        refine k_astore X49 hx (L' := #[.val (.long x0), .second, .val (.long x1), .second, .val (.long x2), .second, .val (.long x3), .second, .val (.int x4), .val (.int x5), .val (.long cn), .second, .val (.int (f1 cn)), .val (.long j), .second, .val (.int (((x5.toUInt32 >>> ((8 : Int32) &&& 31).toUInt32).toInt32) &&& (3 : Int32))), .val (.long k), .second, .val (.ref s1), .val (.ref s2), .val (.ref ds), .val .null, .unset, .unset, .unset, .unset, .unset, .unset, .unset, .unset, .unset, .unset, .unset]) (q := 180) rfl (hb hby at_178) rfl rfl ?_
        refine k_aload X49 hx (q := 182) rfl (hb hby at_180) rfl rfl ?_
        refine k_lloadN X49 hx (q := 183) rfl (hb hby at_182) rfl ?_
        refine k_aload X49 hx (q := 185) rfl (hb hby at_183) rfl rfl ?_
        have Od51 : Old Z n0 T41.heap := Old.keep Od35 K41 (allS ge_s2 all0)
        have Od52 : Old Z n0 h42 := Old.keep Od51 K42 all0
        have Od53 : Old Z n0 T48.heap := Old.keep Od52 K48 (allS ge_ds all0)
        have ge_ka : n0 ≤ ka := Nat.le_trans Sz46 lk48
        have ge_ia : n0 ≤ ia := Nat.le_trans Sz46 li48
        have ne_ds_ka : ds ≠ ka := Nat.ne_of_lt (Nat.lt_of_lt_of_le (A42).lt lk48)
        have ne_ds_ia : ds ≠ ia := Nat.ne_of_lt (Nat.lt_of_lt_of_le (A42).lt li48)
        have Gu54 := (((((((Gu21.keep K24).keep K25).keep K28).keep K29).keep K41).keep K42).keep K48)
        have Gu55 := ((Gu21.keep K24).keep K25)
        have ne_s1_cs2 : s1 ≠ cs2 := Nat.ne_of_lt (Nat.lt_of_lt_of_le (Gu55).lt (Nat.le_of_eq g28.symm))
        have Gu56 := (Gu21.keep K24)
        have ne_s1_s2 : s1 ≠ s2 := Nat.ne_of_lt (Nat.lt_of_lt_of_le (Gu56).lt (Nat.le_of_eq g25.symm))
        have Gu57 := (((Gu55.keep K28).keep K29).keep K41)
        have ne_s1_ds : s1 ≠ ds := Nat.ne_of_lt (Nat.lt_of_lt_of_le (Gu57).lt (Nat.le_of_eq g42.symm))
        have Gu58 := ((((((G124.keep K25 nin0).keep K28 nin0).keep K29 (ninS ne_s1_cs2 nin0)).keep K41 (ninS ne_s1_s2 nin0)).keep K42 nin0).keep K48 (ninS ne_s1_ds nin0))
        have Gu59 := ((((((G224.keep K25 nin0).keep K28 nin0).keep K29 (ninS ne_s1_cs2 nin0)).keep K41 (ninS ne_s1_s2 nin0)).keep K42 nin0).keep K48 (ninS ne_s1_ds nin0))
        have Gu60 := (V24.keep K25 nin0)
        have ne_bs1_cs2 : bs1 ≠ cs2 := Nat.ne_of_lt (Nat.lt_of_lt_of_le (Gu60).lt (Nat.le_of_eq g28.symm))
        have ne_bs1_s2 : bs1 ≠ s2 := Nat.ne_of_lt (Nat.lt_of_lt_of_le (V24).lt (Nat.le_of_eq g25.symm))
        have Gu61 := (((Gu60.keep K28 nin0).keep K29 (ninS ne_bs1_cs2 nin0)).keep K41 (ninS ne_bs1_s2 nin0))
        have ne_bs1_ds : bs1 ≠ ds := Nat.ne_of_lt (Nat.lt_of_lt_of_le (Gu61).lt (Nat.le_of_eq g42.symm))
        have Gu62 := ((((((V24.keep K25 nin0).keep K28 nin0).keep K29 (ninS ne_bs1_cs2 nin0)).keep K41 (ninS ne_bs1_s2 nin0)).keep K42 nin0).keep K48 (ninS ne_bs1_ds nin0))
        refine k_callV X49 hx hZ (y := (⟨"com/example/bones_of_bytecode/bonesofbytecode/DecodedStrings", "keep", "(JLjava/lang/String;)V"⟩ : MethodName)) (z := (⟨"com/example/bones_of_bytecode/bonesofbytecode/DecodedStrings", "keep", "(JLjava/lang/String;)V"⟩ : MethodName)) hown (hw _ (List.mem_of_getElem? (i := 57) rfl)) (hw _ (List.mem_of_getElem? (i := 58) rfl)) (notFace_of_selects (args := #[]) (mvT hZ (hw _ (List.mem_of_getElem? (i := 60) rfl)))) (hw _ (List.mem_of_getElem? (i := 60) rfl)) (hw _ (List.mem_of_getElem? (i := 59) rfl)) (hw _ (List.mem_of_getElem? (i := 61) rfl)) (hw _ (List.mem_of_getElem? (i := 39) rfl)) (by decide) Gu50 0 e49 (rm10n l Z a0 hw ds x1 s1 T48.heap n0 cs hcs (hS.ext Od53.2) SZ ka ia (fun _ => Value.null) (fun _ => (0 : Int64)) Fk48 Fi48 VK48 VI48 (fun _ => rfl) ta hta hxa ge_ds ge_ka ge_ia (Ne.symm ne_ds_ka) (Ne.symm ne_ds_ia) nki Gu50 0 Fu48 kk CK48 OK (by decide) bs1 Gu54 Gu58 Gu59 _ Gu62 rfl) (by decide) (by decide) (by decide) (by decide) (by rw [hml]; rfl) (a := ds) (as := [(.long x1), (.ref s1)]) (rest := []) pd_10 rfl (by first | exact Nat.le_refl _ | simp [Value.category]) (q := 188) rfl (hb hby at_185) ?_
        rintro _ T63 L63 X63 ⟨rfl, N63q, K63, Fk63, Fi63, Fu63, CK63, VK63, VI63⟩
        have N63 := Fr.app N49 N63q
        show End _ _ _ _ _ _ _ (T63.setTop (mkF m 188 #[.val (.long x0), .second, .val (.long x1), .second, .val (.long x2), .second, .val (.long x3), .second, .val (.int x4), .val (.int x5), .val (.long cn), .second, .val (.int (f1 cn)), .val (.long j), .second, .val (.int (((x5.toUInt32 >>> ((8 : Int32) &&& 31).toUInt32).toInt32) &&& (3 : Int32))), .val (.long k), .second, .val (.ref s1), .val (.ref s2), .val (.ref ds), .val .null, .unset, .unset, .unset, .unset, .unset, .unset, .unset, .unset, .unset, .unset, .unset] []))
        have hr1 : ∀ t, ((fun t => if t = ta then Value.ref s1 else .null) t).isRef = true := fun t => by dsimp only; split <;> rfl
        refine k_aload X63 hx (q := 190) rfl (hb hby at_188) rfl rfl ?_
        refine k_lloadN X63 hx (q := 191) rfl (hb hby at_190) rfl ?_
        have Gu65 := (Gu50.keep K63)
        refine k_callV X63 hx hZ (y := (⟨"com/example/bones_of_bytecode/bonesofbytecode/DecodedStrings", "get", "(J)Ljava/lang/String;"⟩ : MethodName)) (z := (⟨"com/example/bones_of_bytecode/bonesofbytecode/DecodedStrings", "get", "(J)Ljava/lang/String;"⟩ : MethodName)) hown (hw _ (List.mem_of_getElem? (i := 52) rfl)) (hw _ (List.mem_of_getElem? (i := 53) rfl)) (notFace_of_selects (args := #[]) (mvT hZ (hw _ (List.mem_of_getElem? (i := 55) rfl)))) (hw _ (List.mem_of_getElem? (i := 55) rfl)) (hw _ (List.mem_of_getElem? (i := 54) rfl)) (hw _ (List.mem_of_getElem? (i := 56) rfl)) (hw _ (List.mem_of_getElem? (i := 39) rfl)) (by decide) Gu65 0 rfl (rm9 l Z a0 hw ds x1 T63.heap n0 SZ ka ia (fun t => if t = ta then Value.ref s1 else .null) (Jvm.OwnK.upd (fun _ => (0 : Int64)) ta x1) Fk63 Fi63 VK63 VI63 hr1 ta hta hxa) (by decide) (by decide) (by decide) (by decide) (by rw [hml]; rfl) (a := ds) (as := [(.long x1)]) (rest := []) pd_9 rfl (by first | exact Nat.le_refl _ | simp [Value.category]) (q := 194) rfl (hb hby at_191) ?_
        rintro _ T64 L64 X64 ⟨rfl, N64q, e64⟩
        have N64 := Fr.app N63 N64q
        show End _ _ _ _ _ _ _ (T64.setTop (mkF m 194 #[.val (.long x0), .second, .val (.long x1), .second, .val (.long x2), .second, .val (.long x3), .second, .val (.int x4), .val (.int x5), .val (.long cn), .second, .val (.int (f1 cn)), .val (.long j), .second, .val (.int (((x5.toUInt32 >>> ((8 : Int32) &&& 31).toUInt32).toInt32) &&& (3 : Int32))), .val (.long k), .second, .val (.ref s1), .val (.ref s2), .val (.ref ds), .val .null, .unset, .unset, .unset, .unset, .unset, .unset, .unset, .unset, .unset, .unset, .unset] [(if (Jvm.OwnK.upd (fun _ => (0 : Int64)) ta x1) ta = x1 then (fun t => if t = ta then Value.ref s1 else .null) ta else .null)]))
        rw [show (if (Jvm.OwnK.upd (fun _ => (0 : Int64)) ta x1) ta = x1 then (fun t => if t = ta then Value.ref s1 else .null) ta else .null) = Value.ref s1 from by rw [Jvm.OwnK.upd_same, if_pos rfl]; exact if_pos rfl]
        show End _ _ _ _ _ _ _ (T64.setTop (mkF m 194 #[.val (.long x0), .second, .val (.long x1), .second, .val (.long x2), .second, .val (.long x3), .second, .val (.int x4), .val (.int x5), .val (.long cn), .second, .val (.int (f1 cn)), .val (.long j), .second, .val (.int (((x5.toUInt32 >>> ((8 : Int32) &&& 31).toUInt32).toInt32) &&& (3 : Int32))), .val (.long k), .second, .val (.ref s1), .val (.ref s2), .val (.ref ds), .val .null, .unset, .unset, .unset, .unset, .unset, .unset, .unset, .unset, .unset, .unset, .unset] [(.ref s1)]))
        refine k_astore X64 hx (L' := #[.val (.long x0), .second, .val (.long x1), .second, .val (.long x2), .second, .val (.long x3), .second, .val (.int x4), .val (.int x5), .val (.long cn), .second, .val (.int (f1 cn)), .val (.long j), .second, .val (.int (((x5.toUInt32 >>> ((8 : Int32) &&& 31).toUInt32).toInt32) &&& (3 : Int32))), .val (.long k), .second, .val (.ref s1), .val (.ref s2), .val (.ref ds), .val .null, .val (.ref s1), .unset, .unset, .unset, .unset, .unset, .unset, .unset, .unset, .unset, .unset]) (q := 196) rfl (hb hby at_194) rfl rfl ?_
        refine k_aload X64 hx (q := 198) rfl (hb hby at_196) rfl rfl ?_
        refine k_lload X64 hx (q := 200) rfl (hb hby at_198) rfl ?_
        refine k_aload X64 hx (q := 202) rfl (hb hby at_200) rfl rfl ?_
        by_cases hba : tb = ta
        · have Od66 : Old Z n0 T63.heap := Old.keep Od53 K63 (allS ge_ds (allS ge_ka (allS ge_ia all0)))
          have Gu67 := ((((Gu38.keep K41).keep K42).keep K48).keep K63)
          have Gu68 := (Gu38.keep K41)
          have ne_s2_ds : s2 ≠ ds := Nat.ne_of_lt (Nat.lt_of_lt_of_le (Gu68).lt (Nat.le_of_eq g42.symm))
          have Gu69 := (Gu68.keep K42)
          have ne_s2_ia : s2 ≠ ia := Nat.ne_of_lt (Nat.lt_of_lt_of_le (Gu69).lt li48)
          have ne_s2_ka : s2 ≠ ka := Nat.ne_of_lt (Nat.lt_of_lt_of_le (Gu69).lt lk48)
          have Gu70 := (((G141.keep K42 nin0).keep K48 (ninS ne_s2_ds nin0)).keep K63 (ninS ne_s2_ds (ninS ne_s2_ka (ninS ne_s2_ia nin0))))
          have Gu71 := (((G241.keep K42 nin0).keep K48 (ninS ne_s2_ds nin0)).keep K63 (ninS ne_s2_ds (ninS ne_s2_ka (ninS ne_s2_ia nin0))))
          have ne_bs2_ds : bs2 ≠ ds := Nat.ne_of_lt (Nat.lt_of_lt_of_le (V41).lt (Nat.le_of_eq g42.symm))
          have Gu72 := (V41.keep K42 nin0)
          have ne_bs2_ia : bs2 ≠ ia := Nat.ne_of_lt (Nat.lt_of_lt_of_le (Gu72).lt li48)
          have ne_bs2_ka : bs2 ≠ ka := Nat.ne_of_lt (Nat.lt_of_lt_of_le (Gu72).lt lk48)
          have Gu73 := (((V41.keep K42 nin0).keep K48 (ninS ne_bs2_ds nin0)).keep K63 (ninS ne_bs2_ds (ninS ne_bs2_ka (ninS ne_bs2_ia nin0))))
          have Gu74 := (Gu54.keep K63)
          have Gu75 := (Gu57.keep K42)
          have ne_s1_ia : s1 ≠ ia := Nat.ne_of_lt (Nat.lt_of_lt_of_le (Gu75).lt li48)
          have ne_s1_ka : s1 ≠ ka := Nat.ne_of_lt (Nat.lt_of_lt_of_le (Gu75).lt lk48)
          have Gu76 := (Gu58.keep K63 (ninS ne_s1_ds (ninS ne_s1_ka (ninS ne_s1_ia nin0))))
          have Gu77 := (Gu59.keep K63 (ninS ne_s1_ds (ninS ne_s1_ka (ninS ne_s1_ia nin0))))
          have Gu78 := (Gu61.keep K42 nin0)
          have ne_bs1_ia : bs1 ≠ ia := Nat.ne_of_lt (Nat.lt_of_lt_of_le (Gu78).lt li48)
          have ne_bs1_ka : bs1 ≠ ka := Nat.ne_of_lt (Nat.lt_of_lt_of_le (Gu78).lt lk48)
          have Gu79 := (Gu62.keep K63 (ninS ne_bs1_ds (ninS ne_bs1_ka (ninS ne_bs1_ia nin0))))
          refine k_callV X64 hx hZ (y := (⟨"com/example/bones_of_bytecode/bonesofbytecode/DecodedStrings", "keep", "(JLjava/lang/String;)V"⟩ : MethodName)) (z := (⟨"com/example/bones_of_bytecode/bonesofbytecode/DecodedStrings", "keep", "(JLjava/lang/String;)V"⟩ : MethodName)) hown (hw _ (List.mem_of_getElem? (i := 57) rfl)) (hw _ (List.mem_of_getElem? (i := 58) rfl)) (notFace_of_selects (args := #[]) (mvT hZ (hw _ (List.mem_of_getElem? (i := 60) rfl)))) (hw _ (List.mem_of_getElem? (i := 60) rfl)) (hw _ (List.mem_of_getElem? (i := 59) rfl)) (hw _ (List.mem_of_getElem? (i := 61) rfl)) (hw _ (List.mem_of_getElem? (i := 39) rfl)) (by decide) Gu65 0 e64 (rm10r l Z a0 hw ds j s2 T63.heap n0 cs hcs (hS.ext Od66.2) SZ ka ia (fun t => if t = ta then Value.ref s1 else .null) (Jvm.OwnK.upd (fun _ => (0 : Int64)) ta x1) Fk63 Fi63 VK63 VI63 hr1 tb htb hxb ge_ds ge_ka ge_ia (Ne.symm ne_ds_ka) (Ne.symm ne_ds_ia) nki Gu65 ((0 : Int64) - (0 : Int32).toInt64 + (1 : Int32).toInt64) Fu63 kk CK63 OK (by decide) bs2 Gu67 Gu70 Gu71 _ Gu73 s1 bs1 (by rw [hba]; exact if_pos rfl) Gu74 Gu76 Gu77 _ Gu79) (by decide) (by decide) (by decide) (by decide) (by rw [hml]; rfl) (a := ds) (as := [(.long j), (.ref s2)]) (rest := []) pd_10 rfl (by first | exact Nat.le_refl _ | simp [Value.category]) (q := 205) rfl (hb hby at_202) ?_
          rintro _ T80 L80 X80 ⟨rfl, N80q, K80, Fk80, Fi80, Fu80, CK80, VK80, VI80⟩
          have N80 := Fr.app N64 N80q
          show End _ _ _ _ _ _ _ (T80.setTop (mkF m 205 #[.val (.long x0), .second, .val (.long x1), .second, .val (.long x2), .second, .val (.long x3), .second, .val (.int x4), .val (.int x5), .val (.long cn), .second, .val (.int (f1 cn)), .val (.long j), .second, .val (.int (((x5.toUInt32 >>> ((8 : Int32) &&& 31).toUInt32).toInt32) &&& (3 : Int32))), .val (.long k), .second, .val (.ref s1), .val (.ref s2), .val (.ref ds), .val .null, .val (.ref s1), .unset, .unset, .unset, .unset, .unset, .unset, .unset, .unset, .unset, .unset] []))
          have hr2 : ∀ t, ((fun t => if t = tb then Value.ref s2 else (fun t => if t = ta then Value.ref s1 else .null) t) t).isRef = true := fun t => by
            by_cases q : t = tb
            · simp only [if_pos q]; rfl
            · simp only [if_neg q]; exact hr1 t
          refine k_aload X80 hx (q := 207) rfl (hb hby at_205) rfl rfl ?_
          refine k_lload X80 hx (q := 209) rfl (hb hby at_207) rfl ?_
          have Gu91 := (Gu65.keep K80)
          refine k_callV X80 hx hZ (y := (⟨"com/example/bones_of_bytecode/bonesofbytecode/DecodedStrings", "get", "(J)Ljava/lang/String;"⟩ : MethodName)) (z := (⟨"com/example/bones_of_bytecode/bonesofbytecode/DecodedStrings", "get", "(J)Ljava/lang/String;"⟩ : MethodName)) hown (hw _ (List.mem_of_getElem? (i := 52) rfl)) (hw _ (List.mem_of_getElem? (i := 53) rfl)) (notFace_of_selects (args := #[]) (mvT hZ (hw _ (List.mem_of_getElem? (i := 55) rfl)))) (hw _ (List.mem_of_getElem? (i := 55) rfl)) (hw _ (List.mem_of_getElem? (i := 54) rfl)) (hw _ (List.mem_of_getElem? (i := 56) rfl)) (hw _ (List.mem_of_getElem? (i := 39) rfl)) (by decide) Gu91 0 rfl (rm9 l Z a0 hw ds k T80.heap n0 SZ ka ia (fun t => if t = tb then Value.ref s2 else (fun t => if t = ta then Value.ref s1 else .null) t) (Jvm.OwnK.upd (Jvm.OwnK.upd (fun _ => (0 : Int64)) ta x1) tb j) Fk80 Fi80 VK80 VI80 hr2 tc htc hxc) (by decide) (by decide) (by decide) (by decide) (by rw [hml]; rfl) (a := ds) (as := [(.long k)]) (rest := []) pd_9 rfl (by first | exact Nat.le_refl _ | simp [Value.category]) (q := 212) rfl (hb hby at_209) ?_
          rintro _ T90 L90 X90 ⟨rfl, N90q, e90⟩
          have N90 := Fr.app N80 N90q
          show End _ _ _ _ _ _ _ (T90.setTop (mkF m 212 #[.val (.long x0), .second, .val (.long x1), .second, .val (.long x2), .second, .val (.long x3), .second, .val (.int x4), .val (.int x5), .val (.long cn), .second, .val (.int (f1 cn)), .val (.long j), .second, .val (.int (((x5.toUInt32 >>> ((8 : Int32) &&& 31).toUInt32).toInt32) &&& (3 : Int32))), .val (.long k), .second, .val (.ref s1), .val (.ref s2), .val (.ref ds), .val .null, .val (.ref s1), .unset, .unset, .unset, .unset, .unset, .unset, .unset, .unset, .unset, .unset] [(if (Jvm.OwnK.upd (Jvm.OwnK.upd (fun _ => (0 : Int64)) ta x1) tb j) tc = k then (fun t => if t = tb then Value.ref s2 else (fun t => if t = ta then Value.ref s1 else .null) t) tc else .null)]))
          have hm : f1 cn = SZ.toInt32 := hfs
          by_cases hcb : tc = tb
          · by_cases hkj : k = j
            · rw [show (if (Jvm.OwnK.upd (Jvm.OwnK.upd (fun _ => (0 : Int64)) ta x1) tb j) tc = k then (fun t => if t = tb then Value.ref s2 else (fun t => if t = ta then Value.ref s1 else .null) t) tc else .null) = Value.ref s2 from by
                rw [hcb, Jvm.OwnK.upd_same, if_pos hkj.symm]; exact if_pos rfl]
              show End _ _ _ _ _ _ _ (T90.setTop (mkF m 212 #[.val (.long x0), .second, .val (.long x1), .second, .val (.long x2), .second, .val (.long x3), .second, .val (.int x4), .val (.int x5), .val (.long cn), .second, .val (.int (f1 cn)), .val (.long j), .second, .val (.int (((x5.toUInt32 >>> ((8 : Int32) &&& 31).toUInt32).toInt32) &&& (3 : Int32))), .val (.long k), .second, .val (.ref s1), .val (.ref s2), .val (.ref ds), .val .null, .val (.ref s1), .unset, .unset, .unset, .unset, .unset, .unset, .unset, .unset, .unset, .unset] [(.ref s2)]))
              refine k_astore X90 hx (L' := #[.val (.long x0), .second, .val (.long x1), .second, .val (.long x2), .second, .val (.long x3), .second, .val (.int x4), .val (.int x5), .val (.long cn), .second, .val (.int (f1 cn)), .val (.long j), .second, .val (.int (((x5.toUInt32 >>> ((8 : Int32) &&& 31).toUInt32).toInt32) &&& (3 : Int32))), .val (.long k), .second, .val (.ref s1), .val (.ref s2), .val (.ref ds), .val .null, .val (.ref s1), .val (.ref s2), .unset, .unset, .unset, .unset, .unset, .unset, .unset, .unset, .unset]) (q := 214) rfl (hb hby at_212) rfl rfl ?_
              refine k_iload X90 hx (q := 216) rfl (hb hby at_214) rfl ?_
              refine k_iconst X90 hx (v := (1 : Int32)) rfl (q := 217) rfl (hb hby at_216) ?_
              refine k_isub X90 hx (q := 218) rfl (hb hby at_217) ?_
              refine k_i2l X90 hx (q := 219) rfl (hb hby at_218) ?_
              refine k_lstore X90 hx (L' := #[.val (.long x0), .second, .val (.long x1), .second, .val (.long x2), .second, .val (.long x3), .second, .val (.int x4), .val (.int x5), .val (.long cn), .second, .val (.int (f1 cn)), .val (.long j), .second, .val (.int (((x5.toUInt32 >>> ((8 : Int32) &&& 31).toUInt32).toInt32) &&& (3 : Int32))), .val (.long k), .second, .val (.ref s1), .val (.ref s2), .val (.ref ds), .val .null, .val (.ref s1), .val (.ref s2), .val (.long ((f1 cn) - (1 : Int32)).toInt64), .second, .unset, .unset, .unset, .unset, .unset, .unset, .unset]) (q := 221) rfl (hb hby at_219) rfl ?_
              refine k_lloadN X90 hx (q := 222) rfl (hb hby at_221) rfl ?_
              refine k_lload X90 hx (q := 224) rfl (hb hby at_222) rfl ?_
              refine k_land X90 hx (q := 225) rfl (hb hby at_224) ?_
              refine k_lstore X90 hx (L' := #[.val (.long x0), .second, .val (.long x1), .second, .val (.long x2), .second, .val (.long x3), .second, .val (.int x4), .val (.int x5), .val (.long cn), .second, .val (.int (f1 cn)), .val (.long j), .second, .val (.int (((x5.toUInt32 >>> ((8 : Int32) &&& 31).toUInt32).toInt32) &&& (3 : Int32))), .val (.long k), .second, .val (.ref s1), .val (.ref s2), .val (.ref ds), .val .null, .val (.ref s1), .val (.ref s2), .val (.long ((f1 cn) - (1 : Int32)).toInt64), .second, .val (.long (x1 &&& ((f1 cn) - (1 : Int32)).toInt64)), .second, .unset, .unset, .unset, .unset, .unset]) (q := 227) rfl (hb hby at_225) rfl ?_
              refine k_lload X90 hx (q := 229) rfl (hb hby at_227) rfl ?_
              refine k_lload X90 hx (q := 231) rfl (hb hby at_229) rfl ?_
              refine k_land X90 hx (q := 232) rfl (hb hby at_231) ?_
              refine k_lstore X90 hx (L' := #[.val (.long x0), .second, .val (.long x1), .second, .val (.long x2), .second, .val (.long x3), .second, .val (.int x4), .val (.int x5), .val (.long cn), .second, .val (.int (f1 cn)), .val (.long j), .second, .val (.int (((x5.toUInt32 >>> ((8 : Int32) &&& 31).toUInt32).toInt32) &&& (3 : Int32))), .val (.long k), .second, .val (.ref s1), .val (.ref s2), .val (.ref ds), .val .null, .val (.ref s1), .val (.ref s2), .val (.long ((f1 cn) - (1 : Int32)).toInt64), .second, .val (.long (x1 &&& ((f1 cn) - (1 : Int32)).toInt64)), .second, .val (.long (j &&& ((f1 cn) - (1 : Int32)).toInt64)), .second, .unset, .unset, .unset]) (q := 234) rfl (hb hby at_232) rfl ?_
              refine k_lload X90 hx (q := 236) rfl (hb hby at_234) rfl ?_
              refine k_lload X90 hx (q := 238) rfl (hb hby at_236) rfl ?_
              refine k_land X90 hx (q := 239) rfl (hb hby at_238) ?_
              refine k_lstore X90 hx (L' := #[.val (.long x0), .second, .val (.long x1), .second, .val (.long x2), .second, .val (.long x3), .second, .val (.int x4), .val (.int x5), .val (.long cn), .second, .val (.int (f1 cn)), .val (.long j), .second, .val (.int (((x5.toUInt32 >>> ((8 : Int32) &&& 31).toUInt32).toInt32) &&& (3 : Int32))), .val (.long k), .second, .val (.ref s1), .val (.ref s2), .val (.ref ds), .val .null, .val (.ref s1), .val (.ref s2), .val (.long ((f1 cn) - (1 : Int32)).toInt64), .second, .val (.long (x1 &&& ((f1 cn) - (1 : Int32)).toInt64)), .second, .val (.long (j &&& ((f1 cn) - (1 : Int32)).toInt64)), .second, .val (.long (k &&& ((f1 cn) - (1 : Int32)).toInt64)), .second, .unset]) (q := 241) rfl (hb hby at_239) rfl ?_
              refine k_lload X90 hx (q := 243) rfl (hb hby at_241) rfl ?_
              refine k_lload X90 hx (q := 245) rfl (hb hby at_243) rfl ?_
              refine k_lcmp_ne X90 hx (q1 := 268) (q := 249) (by decide) (by decide) rfl (hb hby at_245) (hb hby at_246) (fun hc => absurd (by rw [hm]; exact Int64.toInt_inj.mp (by rw [hlc, hlb, hcb])) hc) (fun _ => ?_)
              refine k_lload X90 hx (q := 251) rfl (hb hby at_249) rfl ?_
              refine k_lload X90 hx (q := 253) rfl (hb hby at_251) rfl ?_
              refine k_lcmp_ne X90 hx (q1 := 262) (q := 257) (by decide) (by decide) rfl (hb hby at_253) (hb hby at_254) (fun hc => absurd hkj hc) (fun _ => ?_)
              refine k_aload X90 hx (q := 259) rfl (hb hby at_257) rfl rfl ?_
              refine k_goto X90 hx (q := 263) (by decide) (by decide) (hb hby at_259) ?_
              refine k_astore X90 hx (L' := #[.val (.long x0), .second, .val (.long x1), .second, .val (.long x2), .second, .val (.long x3), .second, .val (.int x4), .val (.int x5), .val (.long cn), .second, .val (.int (f1 cn)), .val (.long j), .second, .val (.int (((x5.toUInt32 >>> ((8 : Int32) &&& 31).toUInt32).toInt32) &&& (3 : Int32))), .val (.long k), .second, .val (.ref s1), .val (.ref s2), .val (.ref ds), .val .null, .val (.ref s1), .val (.ref s2), .val (.long ((f1 cn) - (1 : Int32)).toInt64), .second, .val (.long (x1 &&& ((f1 cn) - (1 : Int32)).toInt64)), .second, .val (.long (j &&& ((f1 cn) - (1 : Int32)).toInt64)), .second, .val (.long (k &&& ((f1 cn) - (1 : Int32)).toInt64)), .second, .val (.ref s2)]) (q := 265) rfl (hb hby at_263) rfl rfl ?_
              refine k_goto X90 hx (q := 297) (by decide) (by decide) (hb hby at_265) ?_
              refine k_aload X90 hx (q := 299) rfl (hb hby at_297) rfl rfl ?_
              refine k_ifnonnull_n X90 hx (q := 302) rfl (hb hby at_299) ?_
              refine k_aload X90 hx (q := 304) rfl (hb hby at_302) rfl rfl ?_
              refine k_aload X90 hx (q := 306) rfl (hb hby at_304) rfl rfl ?_
              refine k_acmp_n X90 hx (q := 309) rfl (hb hby at_306) rfl rfl (acmp_ne_f rfl) ?_
              refine k_aload X90 hx (q := 311) rfl (hb hby at_309) rfl rfl ?_
              refine k_aload X90 hx (q := 313) rfl (hb hby at_311) rfl rfl ?_
              refine k_acmp_n X90 hx (q := 316) rfl (hb hby at_313) rfl rfl (acmpV rfl) ?_
              refine k_iconst X90 hx (v := (1 : Int32)) rfl (q := 317) rfl (hb hby at_316) ?_
              refine k_goto X90 hx (q := 321) (by decide) (by decide) (hb hby at_317) ?_
              exact k_retN X90 hx (t := .boolean) hlk (by decide) (by decide) hret (by simp) (hb hby at_321) ⟨rfl, N90⟩
            · rw [show (if (Jvm.OwnK.upd (Jvm.OwnK.upd (fun _ => (0 : Int64)) ta x1) tb j) tc = k then (fun t => if t = tb then Value.ref s2 else (fun t => if t = ta then Value.ref s1 else .null) t) tc else .null) = Value.null from by
                rw [hcb, Jvm.OwnK.upd_same, if_neg (fun q => hkj q.symm)]]
              show End _ _ _ _ _ _ _ (T90.setTop (mkF m 212 #[.val (.long x0), .second, .val (.long x1), .second, .val (.long x2), .second, .val (.long x3), .second, .val (.int x4), .val (.int x5), .val (.long cn), .second, .val (.int (f1 cn)), .val (.long j), .second, .val (.int (((x5.toUInt32 >>> ((8 : Int32) &&& 31).toUInt32).toInt32) &&& (3 : Int32))), .val (.long k), .second, .val (.ref s1), .val (.ref s2), .val (.ref ds), .val .null, .val (.ref s1), .unset, .unset, .unset, .unset, .unset, .unset, .unset, .unset, .unset, .unset] [.null]))
              refine k_astore X90 hx (L' := #[.val (.long x0), .second, .val (.long x1), .second, .val (.long x2), .second, .val (.long x3), .second, .val (.int x4), .val (.int x5), .val (.long cn), .second, .val (.int (f1 cn)), .val (.long j), .second, .val (.int (((x5.toUInt32 >>> ((8 : Int32) &&& 31).toUInt32).toInt32) &&& (3 : Int32))), .val (.long k), .second, .val (.ref s1), .val (.ref s2), .val (.ref ds), .val .null, .val (.ref s1), .val .null, .unset, .unset, .unset, .unset, .unset, .unset, .unset, .unset, .unset]) (q := 214) rfl (hb hby at_212) rfl rfl ?_
              refine k_iload X90 hx (q := 216) rfl (hb hby at_214) rfl ?_
              refine k_iconst X90 hx (v := (1 : Int32)) rfl (q := 217) rfl (hb hby at_216) ?_
              refine k_isub X90 hx (q := 218) rfl (hb hby at_217) ?_
              refine k_i2l X90 hx (q := 219) rfl (hb hby at_218) ?_
              refine k_lstore X90 hx (L' := #[.val (.long x0), .second, .val (.long x1), .second, .val (.long x2), .second, .val (.long x3), .second, .val (.int x4), .val (.int x5), .val (.long cn), .second, .val (.int (f1 cn)), .val (.long j), .second, .val (.int (((x5.toUInt32 >>> ((8 : Int32) &&& 31).toUInt32).toInt32) &&& (3 : Int32))), .val (.long k), .second, .val (.ref s1), .val (.ref s2), .val (.ref ds), .val .null, .val (.ref s1), .val .null, .val (.long ((f1 cn) - (1 : Int32)).toInt64), .second, .unset, .unset, .unset, .unset, .unset, .unset, .unset]) (q := 221) rfl (hb hby at_219) rfl ?_
              refine k_lloadN X90 hx (q := 222) rfl (hb hby at_221) rfl ?_
              refine k_lload X90 hx (q := 224) rfl (hb hby at_222) rfl ?_
              refine k_land X90 hx (q := 225) rfl (hb hby at_224) ?_
              refine k_lstore X90 hx (L' := #[.val (.long x0), .second, .val (.long x1), .second, .val (.long x2), .second, .val (.long x3), .second, .val (.int x4), .val (.int x5), .val (.long cn), .second, .val (.int (f1 cn)), .val (.long j), .second, .val (.int (((x5.toUInt32 >>> ((8 : Int32) &&& 31).toUInt32).toInt32) &&& (3 : Int32))), .val (.long k), .second, .val (.ref s1), .val (.ref s2), .val (.ref ds), .val .null, .val (.ref s1), .val .null, .val (.long ((f1 cn) - (1 : Int32)).toInt64), .second, .val (.long (x1 &&& ((f1 cn) - (1 : Int32)).toInt64)), .second, .unset, .unset, .unset, .unset, .unset]) (q := 227) rfl (hb hby at_225) rfl ?_
              refine k_lload X90 hx (q := 229) rfl (hb hby at_227) rfl ?_
              refine k_lload X90 hx (q := 231) rfl (hb hby at_229) rfl ?_
              refine k_land X90 hx (q := 232) rfl (hb hby at_231) ?_
              refine k_lstore X90 hx (L' := #[.val (.long x0), .second, .val (.long x1), .second, .val (.long x2), .second, .val (.long x3), .second, .val (.int x4), .val (.int x5), .val (.long cn), .second, .val (.int (f1 cn)), .val (.long j), .second, .val (.int (((x5.toUInt32 >>> ((8 : Int32) &&& 31).toUInt32).toInt32) &&& (3 : Int32))), .val (.long k), .second, .val (.ref s1), .val (.ref s2), .val (.ref ds), .val .null, .val (.ref s1), .val .null, .val (.long ((f1 cn) - (1 : Int32)).toInt64), .second, .val (.long (x1 &&& ((f1 cn) - (1 : Int32)).toInt64)), .second, .val (.long (j &&& ((f1 cn) - (1 : Int32)).toInt64)), .second, .unset, .unset, .unset]) (q := 234) rfl (hb hby at_232) rfl ?_
              refine k_lload X90 hx (q := 236) rfl (hb hby at_234) rfl ?_
              refine k_lload X90 hx (q := 238) rfl (hb hby at_236) rfl ?_
              refine k_land X90 hx (q := 239) rfl (hb hby at_238) ?_
              refine k_lstore X90 hx (L' := #[.val (.long x0), .second, .val (.long x1), .second, .val (.long x2), .second, .val (.long x3), .second, .val (.int x4), .val (.int x5), .val (.long cn), .second, .val (.int (f1 cn)), .val (.long j), .second, .val (.int (((x5.toUInt32 >>> ((8 : Int32) &&& 31).toUInt32).toInt32) &&& (3 : Int32))), .val (.long k), .second, .val (.ref s1), .val (.ref s2), .val (.ref ds), .val .null, .val (.ref s1), .val .null, .val (.long ((f1 cn) - (1 : Int32)).toInt64), .second, .val (.long (x1 &&& ((f1 cn) - (1 : Int32)).toInt64)), .second, .val (.long (j &&& ((f1 cn) - (1 : Int32)).toInt64)), .second, .val (.long (k &&& ((f1 cn) - (1 : Int32)).toInt64)), .second, .unset]) (q := 241) rfl (hb hby at_239) rfl ?_
              refine k_lload X90 hx (q := 243) rfl (hb hby at_241) rfl ?_
              refine k_lload X90 hx (q := 245) rfl (hb hby at_243) rfl ?_
              refine k_lcmp_ne X90 hx (q1 := 268) (q := 249) (by decide) (by decide) rfl (hb hby at_245) (hb hby at_246) (fun hc => absurd (by rw [hm]; exact Int64.toInt_inj.mp (by rw [hlc, hlb, hcb])) hc) (fun _ => ?_)
              refine k_lload X90 hx (q := 251) rfl (hb hby at_249) rfl ?_
              refine k_lload X90 hx (q := 253) rfl (hb hby at_251) rfl ?_
              refine k_lcmp_ne X90 hx (q1 := 262) (q := 257) (by decide) (by decide) rfl (hb hby at_253) (hb hby at_254) (fun _ => ?_) (fun hc => absurd hc hkj)
              refine k_aconst_null X90 hx (q := 263) rfl (hb hby at_262) ?_
              refine k_astore X90 hx (L' := #[.val (.long x0), .second, .val (.long x1), .second, .val (.long x2), .second, .val (.long x3), .second, .val (.int x4), .val (.int x5), .val (.long cn), .second, .val (.int (f1 cn)), .val (.long j), .second, .val (.int (((x5.toUInt32 >>> ((8 : Int32) &&& 31).toUInt32).toInt32) &&& (3 : Int32))), .val (.long k), .second, .val (.ref s1), .val (.ref s2), .val (.ref ds), .val .null, .val (.ref s1), .val .null, .val (.long ((f1 cn) - (1 : Int32)).toInt64), .second, .val (.long (x1 &&& ((f1 cn) - (1 : Int32)).toInt64)), .second, .val (.long (j &&& ((f1 cn) - (1 : Int32)).toInt64)), .second, .val (.long (k &&& ((f1 cn) - (1 : Int32)).toInt64)), .second, .val .null]) (q := 265) rfl (hb hby at_263) rfl rfl ?_
              refine k_goto X90 hx (q := 297) (by decide) (by decide) (hb hby at_265) ?_
              refine k_aload X90 hx (q := 299) rfl (hb hby at_297) rfl rfl ?_
              refine k_ifnonnull_n X90 hx (q := 302) rfl (hb hby at_299) ?_
              refine k_aload X90 hx (q := 304) rfl (hb hby at_302) rfl rfl ?_
              refine k_aload X90 hx (q := 306) rfl (hb hby at_304) rfl rfl ?_
              refine k_acmp_n X90 hx (q := 309) rfl (hb hby at_306) rfl rfl (acmp_ne_f rfl) ?_
              refine k_aload X90 hx (q := 311) rfl (hb hby at_309) rfl rfl ?_
              refine k_aload X90 hx (q := 313) rfl (hb hby at_311) rfl rfl ?_
              refine k_acmp_n X90 hx (q := 316) rfl (hb hby at_313) rfl rfl (acmpV rfl) ?_
              refine k_iconst X90 hx (v := (1 : Int32)) rfl (q := 317) rfl (hb hby at_316) ?_
              refine k_goto X90 hx (q := 321) (by decide) (by decide) (hb hby at_317) ?_
              exact k_retN X90 hx (t := .boolean) hlk (by decide) (by decide) hret (by simp) (hb hby at_321) ⟨rfl, N90⟩
          · by_cases hca : tc = ta
            · by_cases hki : k = x1
              · rw [show (if (Jvm.OwnK.upd (Jvm.OwnK.upd (fun _ => (0 : Int64)) ta x1) tb j) tc = k then (fun t => if t = tb then Value.ref s2 else (fun t => if t = ta then Value.ref s1 else .null) t) tc else .null) = Value.ref s1 from by
                  rw [Jvm.OwnK.upd_other _ _ hcb, hca, Jvm.OwnK.upd_same, if_pos hki.symm]; simp only [if_neg (fun q => hcb (hca.trans q)), if_true]]
                show End _ _ _ _ _ _ _ (T90.setTop (mkF m 212 #[.val (.long x0), .second, .val (.long x1), .second, .val (.long x2), .second, .val (.long x3), .second, .val (.int x4), .val (.int x5), .val (.long cn), .second, .val (.int (f1 cn)), .val (.long j), .second, .val (.int (((x5.toUInt32 >>> ((8 : Int32) &&& 31).toUInt32).toInt32) &&& (3 : Int32))), .val (.long k), .second, .val (.ref s1), .val (.ref s2), .val (.ref ds), .val .null, .val (.ref s1), .unset, .unset, .unset, .unset, .unset, .unset, .unset, .unset, .unset, .unset] [(.ref s1)]))
                refine k_astore X90 hx (L' := #[.val (.long x0), .second, .val (.long x1), .second, .val (.long x2), .second, .val (.long x3), .second, .val (.int x4), .val (.int x5), .val (.long cn), .second, .val (.int (f1 cn)), .val (.long j), .second, .val (.int (((x5.toUInt32 >>> ((8 : Int32) &&& 31).toUInt32).toInt32) &&& (3 : Int32))), .val (.long k), .second, .val (.ref s1), .val (.ref s2), .val (.ref ds), .val .null, .val (.ref s1), .val (.ref s1), .unset, .unset, .unset, .unset, .unset, .unset, .unset, .unset, .unset]) (q := 214) rfl (hb hby at_212) rfl rfl ?_
                refine k_iload X90 hx (q := 216) rfl (hb hby at_214) rfl ?_
                refine k_iconst X90 hx (v := (1 : Int32)) rfl (q := 217) rfl (hb hby at_216) ?_
                refine k_isub X90 hx (q := 218) rfl (hb hby at_217) ?_
                refine k_i2l X90 hx (q := 219) rfl (hb hby at_218) ?_
                refine k_lstore X90 hx (L' := #[.val (.long x0), .second, .val (.long x1), .second, .val (.long x2), .second, .val (.long x3), .second, .val (.int x4), .val (.int x5), .val (.long cn), .second, .val (.int (f1 cn)), .val (.long j), .second, .val (.int (((x5.toUInt32 >>> ((8 : Int32) &&& 31).toUInt32).toInt32) &&& (3 : Int32))), .val (.long k), .second, .val (.ref s1), .val (.ref s2), .val (.ref ds), .val .null, .val (.ref s1), .val (.ref s1), .val (.long ((f1 cn) - (1 : Int32)).toInt64), .second, .unset, .unset, .unset, .unset, .unset, .unset, .unset]) (q := 221) rfl (hb hby at_219) rfl ?_
                refine k_lloadN X90 hx (q := 222) rfl (hb hby at_221) rfl ?_
                refine k_lload X90 hx (q := 224) rfl (hb hby at_222) rfl ?_
                refine k_land X90 hx (q := 225) rfl (hb hby at_224) ?_
                refine k_lstore X90 hx (L' := #[.val (.long x0), .second, .val (.long x1), .second, .val (.long x2), .second, .val (.long x3), .second, .val (.int x4), .val (.int x5), .val (.long cn), .second, .val (.int (f1 cn)), .val (.long j), .second, .val (.int (((x5.toUInt32 >>> ((8 : Int32) &&& 31).toUInt32).toInt32) &&& (3 : Int32))), .val (.long k), .second, .val (.ref s1), .val (.ref s2), .val (.ref ds), .val .null, .val (.ref s1), .val (.ref s1), .val (.long ((f1 cn) - (1 : Int32)).toInt64), .second, .val (.long (x1 &&& ((f1 cn) - (1 : Int32)).toInt64)), .second, .unset, .unset, .unset, .unset, .unset]) (q := 227) rfl (hb hby at_225) rfl ?_
                refine k_lload X90 hx (q := 229) rfl (hb hby at_227) rfl ?_
                refine k_lload X90 hx (q := 231) rfl (hb hby at_229) rfl ?_
                refine k_land X90 hx (q := 232) rfl (hb hby at_231) ?_
                refine k_lstore X90 hx (L' := #[.val (.long x0), .second, .val (.long x1), .second, .val (.long x2), .second, .val (.long x3), .second, .val (.int x4), .val (.int x5), .val (.long cn), .second, .val (.int (f1 cn)), .val (.long j), .second, .val (.int (((x5.toUInt32 >>> ((8 : Int32) &&& 31).toUInt32).toInt32) &&& (3 : Int32))), .val (.long k), .second, .val (.ref s1), .val (.ref s2), .val (.ref ds), .val .null, .val (.ref s1), .val (.ref s1), .val (.long ((f1 cn) - (1 : Int32)).toInt64), .second, .val (.long (x1 &&& ((f1 cn) - (1 : Int32)).toInt64)), .second, .val (.long (j &&& ((f1 cn) - (1 : Int32)).toInt64)), .second, .unset, .unset, .unset]) (q := 234) rfl (hb hby at_232) rfl ?_
                refine k_lload X90 hx (q := 236) rfl (hb hby at_234) rfl ?_
                refine k_lload X90 hx (q := 238) rfl (hb hby at_236) rfl ?_
                refine k_land X90 hx (q := 239) rfl (hb hby at_238) ?_
                refine k_lstore X90 hx (L' := #[.val (.long x0), .second, .val (.long x1), .second, .val (.long x2), .second, .val (.long x3), .second, .val (.int x4), .val (.int x5), .val (.long cn), .second, .val (.int (f1 cn)), .val (.long j), .second, .val (.int (((x5.toUInt32 >>> ((8 : Int32) &&& 31).toUInt32).toInt32) &&& (3 : Int32))), .val (.long k), .second, .val (.ref s1), .val (.ref s2), .val (.ref ds), .val .null, .val (.ref s1), .val (.ref s1), .val (.long ((f1 cn) - (1 : Int32)).toInt64), .second, .val (.long (x1 &&& ((f1 cn) - (1 : Int32)).toInt64)), .second, .val (.long (j &&& ((f1 cn) - (1 : Int32)).toInt64)), .second, .val (.long (k &&& ((f1 cn) - (1 : Int32)).toInt64)), .second, .unset]) (q := 241) rfl (hb hby at_239) rfl ?_
                refine k_lload X90 hx (q := 243) rfl (hb hby at_241) rfl ?_
                refine k_lload X90 hx (q := 245) rfl (hb hby at_243) rfl ?_
                refine k_lcmp_ne X90 hx (q1 := 268) (q := 249) (by decide) (by decide) rfl (hb hby at_245) (hb hby at_246) (fun _ => ?_) (fun hc => absurd hc (fun q => hcb (by rw [hm] at q; have := congrArg Int64.toInt q; rw [hlc, hlb] at this; omega)))
                refine k_lload X90 hx (q := 270) rfl (hb hby at_268) rfl ?_
                refine k_lload X90 hx (q := 272) rfl (hb hby at_270) rfl ?_
                refine k_lcmp_ne X90 hx (q1 := 294) (q := 276) (by decide) (by decide) rfl (hb hby at_272) (hb hby at_273) (fun hc => absurd (by rw [hm]; exact Int64.toInt_inj.mp (by rw [hlc, hla, hca])) hc) (fun _ => ?_)
                refine k_lload X90 hx (q := 278) rfl (hb hby at_276) rfl ?_
                refine k_lloadN X90 hx (q := 279) rfl (hb hby at_278) rfl ?_
                refine k_lcmp_ne X90 hx (q1 := 288) (q := 283) (by decide) (by decide) rfl (hb hby at_279) (hb hby at_280) (fun hc => absurd hki hc) (fun _ => ?_)
                refine k_aload X90 hx (q := 285) rfl (hb hby at_283) rfl rfl ?_
                refine k_goto X90 hx (q := 289) (by decide) (by decide) (hb hby at_285) ?_
                refine k_astore X90 hx (L' := #[.val (.long x0), .second, .val (.long x1), .second, .val (.long x2), .second, .val (.long x3), .second, .val (.int x4), .val (.int x5), .val (.long cn), .second, .val (.int (f1 cn)), .val (.long j), .second, .val (.int (((x5.toUInt32 >>> ((8 : Int32) &&& 31).toUInt32).toInt32) &&& (3 : Int32))), .val (.long k), .second, .val (.ref s1), .val (.ref s2), .val (.ref ds), .val .null, .val (.ref s1), .val (.ref s1), .val (.long ((f1 cn) - (1 : Int32)).toInt64), .second, .val (.long (x1 &&& ((f1 cn) - (1 : Int32)).toInt64)), .second, .val (.long (j &&& ((f1 cn) - (1 : Int32)).toInt64)), .second, .val (.long (k &&& ((f1 cn) - (1 : Int32)).toInt64)), .second, .val (.ref s1)]) (q := 291) rfl (hb hby at_289) rfl rfl ?_
                refine k_goto X90 hx (q := 297) (by decide) (by decide) (hb hby at_291) ?_
                refine k_aload X90 hx (q := 299) rfl (hb hby at_297) rfl rfl ?_
                refine k_ifnonnull_n X90 hx (q := 302) rfl (hb hby at_299) ?_
                refine k_aload X90 hx (q := 304) rfl (hb hby at_302) rfl rfl ?_
                refine k_aload X90 hx (q := 306) rfl (hb hby at_304) rfl rfl ?_
                refine k_acmp_n X90 hx (q := 309) rfl (hb hby at_306) rfl rfl (acmp_ne_f rfl) ?_
                refine k_aload X90 hx (q := 311) rfl (hb hby at_309) rfl rfl ?_
                refine k_aload X90 hx (q := 313) rfl (hb hby at_311) rfl rfl ?_
                refine k_acmp_n X90 hx (q := 316) rfl (hb hby at_313) rfl rfl (acmpV rfl) ?_
                refine k_iconst X90 hx (v := (1 : Int32)) rfl (q := 317) rfl (hb hby at_316) ?_
                refine k_goto X90 hx (q := 321) (by decide) (by decide) (hb hby at_317) ?_
                exact k_retN X90 hx (t := .boolean) hlk (by decide) (by decide) hret (by simp) (hb hby at_321) ⟨rfl, N90⟩
              · rw [show (if (Jvm.OwnK.upd (Jvm.OwnK.upd (fun _ => (0 : Int64)) ta x1) tb j) tc = k then (fun t => if t = tb then Value.ref s2 else (fun t => if t = ta then Value.ref s1 else .null) t) tc else .null) = Value.null from by
                  rw [Jvm.OwnK.upd_other _ _ hcb, hca, Jvm.OwnK.upd_same, if_neg (fun q => hki q.symm)]]
                show End _ _ _ _ _ _ _ (T90.setTop (mkF m 212 #[.val (.long x0), .second, .val (.long x1), .second, .val (.long x2), .second, .val (.long x3), .second, .val (.int x4), .val (.int x5), .val (.long cn), .second, .val (.int (f1 cn)), .val (.long j), .second, .val (.int (((x5.toUInt32 >>> ((8 : Int32) &&& 31).toUInt32).toInt32) &&& (3 : Int32))), .val (.long k), .second, .val (.ref s1), .val (.ref s2), .val (.ref ds), .val .null, .val (.ref s1), .unset, .unset, .unset, .unset, .unset, .unset, .unset, .unset, .unset, .unset] [.null]))
                refine k_astore X90 hx (L' := #[.val (.long x0), .second, .val (.long x1), .second, .val (.long x2), .second, .val (.long x3), .second, .val (.int x4), .val (.int x5), .val (.long cn), .second, .val (.int (f1 cn)), .val (.long j), .second, .val (.int (((x5.toUInt32 >>> ((8 : Int32) &&& 31).toUInt32).toInt32) &&& (3 : Int32))), .val (.long k), .second, .val (.ref s1), .val (.ref s2), .val (.ref ds), .val .null, .val (.ref s1), .val .null, .unset, .unset, .unset, .unset, .unset, .unset, .unset, .unset, .unset]) (q := 214) rfl (hb hby at_212) rfl rfl ?_
                refine k_iload X90 hx (q := 216) rfl (hb hby at_214) rfl ?_
                refine k_iconst X90 hx (v := (1 : Int32)) rfl (q := 217) rfl (hb hby at_216) ?_
                refine k_isub X90 hx (q := 218) rfl (hb hby at_217) ?_
                refine k_i2l X90 hx (q := 219) rfl (hb hby at_218) ?_
                refine k_lstore X90 hx (L' := #[.val (.long x0), .second, .val (.long x1), .second, .val (.long x2), .second, .val (.long x3), .second, .val (.int x4), .val (.int x5), .val (.long cn), .second, .val (.int (f1 cn)), .val (.long j), .second, .val (.int (((x5.toUInt32 >>> ((8 : Int32) &&& 31).toUInt32).toInt32) &&& (3 : Int32))), .val (.long k), .second, .val (.ref s1), .val (.ref s2), .val (.ref ds), .val .null, .val (.ref s1), .val .null, .val (.long ((f1 cn) - (1 : Int32)).toInt64), .second, .unset, .unset, .unset, .unset, .unset, .unset, .unset]) (q := 221) rfl (hb hby at_219) rfl ?_
                refine k_lloadN X90 hx (q := 222) rfl (hb hby at_221) rfl ?_
                refine k_lload X90 hx (q := 224) rfl (hb hby at_222) rfl ?_
                refine k_land X90 hx (q := 225) rfl (hb hby at_224) ?_
                refine k_lstore X90 hx (L' := #[.val (.long x0), .second, .val (.long x1), .second, .val (.long x2), .second, .val (.long x3), .second, .val (.int x4), .val (.int x5), .val (.long cn), .second, .val (.int (f1 cn)), .val (.long j), .second, .val (.int (((x5.toUInt32 >>> ((8 : Int32) &&& 31).toUInt32).toInt32) &&& (3 : Int32))), .val (.long k), .second, .val (.ref s1), .val (.ref s2), .val (.ref ds), .val .null, .val (.ref s1), .val .null, .val (.long ((f1 cn) - (1 : Int32)).toInt64), .second, .val (.long (x1 &&& ((f1 cn) - (1 : Int32)).toInt64)), .second, .unset, .unset, .unset, .unset, .unset]) (q := 227) rfl (hb hby at_225) rfl ?_
                refine k_lload X90 hx (q := 229) rfl (hb hby at_227) rfl ?_
                refine k_lload X90 hx (q := 231) rfl (hb hby at_229) rfl ?_
                refine k_land X90 hx (q := 232) rfl (hb hby at_231) ?_
                refine k_lstore X90 hx (L' := #[.val (.long x0), .second, .val (.long x1), .second, .val (.long x2), .second, .val (.long x3), .second, .val (.int x4), .val (.int x5), .val (.long cn), .second, .val (.int (f1 cn)), .val (.long j), .second, .val (.int (((x5.toUInt32 >>> ((8 : Int32) &&& 31).toUInt32).toInt32) &&& (3 : Int32))), .val (.long k), .second, .val (.ref s1), .val (.ref s2), .val (.ref ds), .val .null, .val (.ref s1), .val .null, .val (.long ((f1 cn) - (1 : Int32)).toInt64), .second, .val (.long (x1 &&& ((f1 cn) - (1 : Int32)).toInt64)), .second, .val (.long (j &&& ((f1 cn) - (1 : Int32)).toInt64)), .second, .unset, .unset, .unset]) (q := 234) rfl (hb hby at_232) rfl ?_
                refine k_lload X90 hx (q := 236) rfl (hb hby at_234) rfl ?_
                refine k_lload X90 hx (q := 238) rfl (hb hby at_236) rfl ?_
                refine k_land X90 hx (q := 239) rfl (hb hby at_238) ?_
                refine k_lstore X90 hx (L' := #[.val (.long x0), .second, .val (.long x1), .second, .val (.long x2), .second, .val (.long x3), .second, .val (.int x4), .val (.int x5), .val (.long cn), .second, .val (.int (f1 cn)), .val (.long j), .second, .val (.int (((x5.toUInt32 >>> ((8 : Int32) &&& 31).toUInt32).toInt32) &&& (3 : Int32))), .val (.long k), .second, .val (.ref s1), .val (.ref s2), .val (.ref ds), .val .null, .val (.ref s1), .val .null, .val (.long ((f1 cn) - (1 : Int32)).toInt64), .second, .val (.long (x1 &&& ((f1 cn) - (1 : Int32)).toInt64)), .second, .val (.long (j &&& ((f1 cn) - (1 : Int32)).toInt64)), .second, .val (.long (k &&& ((f1 cn) - (1 : Int32)).toInt64)), .second, .unset]) (q := 241) rfl (hb hby at_239) rfl ?_
                refine k_lload X90 hx (q := 243) rfl (hb hby at_241) rfl ?_
                refine k_lload X90 hx (q := 245) rfl (hb hby at_243) rfl ?_
                refine k_lcmp_ne X90 hx (q1 := 268) (q := 249) (by decide) (by decide) rfl (hb hby at_245) (hb hby at_246) (fun _ => ?_) (fun hc => absurd hc (fun q => hcb (by rw [hm] at q; have := congrArg Int64.toInt q; rw [hlc, hlb] at this; omega)))
                refine k_lload X90 hx (q := 270) rfl (hb hby at_268) rfl ?_
                refine k_lload X90 hx (q := 272) rfl (hb hby at_270) rfl ?_
                refine k_lcmp_ne X90 hx (q1 := 294) (q := 276) (by decide) (by decide) rfl (hb hby at_272) (hb hby at_273) (fun hc => absurd (by rw [hm]; exact Int64.toInt_inj.mp (by rw [hlc, hla, hca])) hc) (fun _ => ?_)
                refine k_lload X90 hx (q := 278) rfl (hb hby at_276) rfl ?_
                refine k_lloadN X90 hx (q := 279) rfl (hb hby at_278) rfl ?_
                refine k_lcmp_ne X90 hx (q1 := 288) (q := 283) (by decide) (by decide) rfl (hb hby at_279) (hb hby at_280) (fun _ => ?_) (fun hc => absurd hc hki)
                refine k_aconst_null X90 hx (q := 289) rfl (hb hby at_288) ?_
                refine k_astore X90 hx (L' := #[.val (.long x0), .second, .val (.long x1), .second, .val (.long x2), .second, .val (.long x3), .second, .val (.int x4), .val (.int x5), .val (.long cn), .second, .val (.int (f1 cn)), .val (.long j), .second, .val (.int (((x5.toUInt32 >>> ((8 : Int32) &&& 31).toUInt32).toInt32) &&& (3 : Int32))), .val (.long k), .second, .val (.ref s1), .val (.ref s2), .val (.ref ds), .val .null, .val (.ref s1), .val .null, .val (.long ((f1 cn) - (1 : Int32)).toInt64), .second, .val (.long (x1 &&& ((f1 cn) - (1 : Int32)).toInt64)), .second, .val (.long (j &&& ((f1 cn) - (1 : Int32)).toInt64)), .second, .val (.long (k &&& ((f1 cn) - (1 : Int32)).toInt64)), .second, .val .null]) (q := 291) rfl (hb hby at_289) rfl rfl ?_
                refine k_goto X90 hx (q := 297) (by decide) (by decide) (hb hby at_291) ?_
                refine k_aload X90 hx (q := 299) rfl (hb hby at_297) rfl rfl ?_
                refine k_ifnonnull_n X90 hx (q := 302) rfl (hb hby at_299) ?_
                refine k_aload X90 hx (q := 304) rfl (hb hby at_302) rfl rfl ?_
                refine k_aload X90 hx (q := 306) rfl (hb hby at_304) rfl rfl ?_
                refine k_acmp_n X90 hx (q := 309) rfl (hb hby at_306) rfl rfl (acmp_ne_f rfl) ?_
                refine k_aload X90 hx (q := 311) rfl (hb hby at_309) rfl rfl ?_
                refine k_aload X90 hx (q := 313) rfl (hb hby at_311) rfl rfl ?_
                refine k_acmp_n X90 hx (q := 316) rfl (hb hby at_313) rfl rfl (acmpV rfl) ?_
                refine k_iconst X90 hx (v := (1 : Int32)) rfl (q := 317) rfl (hb hby at_316) ?_
                refine k_goto X90 hx (q := 321) (by decide) (by decide) (hb hby at_317) ?_
                exact k_retN X90 hx (t := .boolean) hlk (by decide) (by decide) hret (by simp) (hb hby at_321) ⟨rfl, N90⟩
            · rw [show (if (Jvm.OwnK.upd (Jvm.OwnK.upd (fun _ => (0 : Int64)) ta x1) tb j) tc = k then (fun t => if t = tb then Value.ref s2 else (fun t => if t = ta then Value.ref s1 else .null) t) tc else .null) = Value.null from by
                simp only [if_neg hcb, if_neg hca, ite_self]]
              show End _ _ _ _ _ _ _ (T90.setTop (mkF m 212 #[.val (.long x0), .second, .val (.long x1), .second, .val (.long x2), .second, .val (.long x3), .second, .val (.int x4), .val (.int x5), .val (.long cn), .second, .val (.int (f1 cn)), .val (.long j), .second, .val (.int (((x5.toUInt32 >>> ((8 : Int32) &&& 31).toUInt32).toInt32) &&& (3 : Int32))), .val (.long k), .second, .val (.ref s1), .val (.ref s2), .val (.ref ds), .val .null, .val (.ref s1), .unset, .unset, .unset, .unset, .unset, .unset, .unset, .unset, .unset, .unset] [.null]))
              refine k_astore X90 hx (L' := #[.val (.long x0), .second, .val (.long x1), .second, .val (.long x2), .second, .val (.long x3), .second, .val (.int x4), .val (.int x5), .val (.long cn), .second, .val (.int (f1 cn)), .val (.long j), .second, .val (.int (((x5.toUInt32 >>> ((8 : Int32) &&& 31).toUInt32).toInt32) &&& (3 : Int32))), .val (.long k), .second, .val (.ref s1), .val (.ref s2), .val (.ref ds), .val .null, .val (.ref s1), .val .null, .unset, .unset, .unset, .unset, .unset, .unset, .unset, .unset, .unset]) (q := 214) rfl (hb hby at_212) rfl rfl ?_
              refine k_iload X90 hx (q := 216) rfl (hb hby at_214) rfl ?_
              refine k_iconst X90 hx (v := (1 : Int32)) rfl (q := 217) rfl (hb hby at_216) ?_
              refine k_isub X90 hx (q := 218) rfl (hb hby at_217) ?_
              refine k_i2l X90 hx (q := 219) rfl (hb hby at_218) ?_
              refine k_lstore X90 hx (L' := #[.val (.long x0), .second, .val (.long x1), .second, .val (.long x2), .second, .val (.long x3), .second, .val (.int x4), .val (.int x5), .val (.long cn), .second, .val (.int (f1 cn)), .val (.long j), .second, .val (.int (((x5.toUInt32 >>> ((8 : Int32) &&& 31).toUInt32).toInt32) &&& (3 : Int32))), .val (.long k), .second, .val (.ref s1), .val (.ref s2), .val (.ref ds), .val .null, .val (.ref s1), .val .null, .val (.long ((f1 cn) - (1 : Int32)).toInt64), .second, .unset, .unset, .unset, .unset, .unset, .unset, .unset]) (q := 221) rfl (hb hby at_219) rfl ?_
              refine k_lloadN X90 hx (q := 222) rfl (hb hby at_221) rfl ?_
              refine k_lload X90 hx (q := 224) rfl (hb hby at_222) rfl ?_
              refine k_land X90 hx (q := 225) rfl (hb hby at_224) ?_
              refine k_lstore X90 hx (L' := #[.val (.long x0), .second, .val (.long x1), .second, .val (.long x2), .second, .val (.long x3), .second, .val (.int x4), .val (.int x5), .val (.long cn), .second, .val (.int (f1 cn)), .val (.long j), .second, .val (.int (((x5.toUInt32 >>> ((8 : Int32) &&& 31).toUInt32).toInt32) &&& (3 : Int32))), .val (.long k), .second, .val (.ref s1), .val (.ref s2), .val (.ref ds), .val .null, .val (.ref s1), .val .null, .val (.long ((f1 cn) - (1 : Int32)).toInt64), .second, .val (.long (x1 &&& ((f1 cn) - (1 : Int32)).toInt64)), .second, .unset, .unset, .unset, .unset, .unset]) (q := 227) rfl (hb hby at_225) rfl ?_
              refine k_lload X90 hx (q := 229) rfl (hb hby at_227) rfl ?_
              refine k_lload X90 hx (q := 231) rfl (hb hby at_229) rfl ?_
              refine k_land X90 hx (q := 232) rfl (hb hby at_231) ?_
              refine k_lstore X90 hx (L' := #[.val (.long x0), .second, .val (.long x1), .second, .val (.long x2), .second, .val (.long x3), .second, .val (.int x4), .val (.int x5), .val (.long cn), .second, .val (.int (f1 cn)), .val (.long j), .second, .val (.int (((x5.toUInt32 >>> ((8 : Int32) &&& 31).toUInt32).toInt32) &&& (3 : Int32))), .val (.long k), .second, .val (.ref s1), .val (.ref s2), .val (.ref ds), .val .null, .val (.ref s1), .val .null, .val (.long ((f1 cn) - (1 : Int32)).toInt64), .second, .val (.long (x1 &&& ((f1 cn) - (1 : Int32)).toInt64)), .second, .val (.long (j &&& ((f1 cn) - (1 : Int32)).toInt64)), .second, .unset, .unset, .unset]) (q := 234) rfl (hb hby at_232) rfl ?_
              refine k_lload X90 hx (q := 236) rfl (hb hby at_234) rfl ?_
              refine k_lload X90 hx (q := 238) rfl (hb hby at_236) rfl ?_
              refine k_land X90 hx (q := 239) rfl (hb hby at_238) ?_
              refine k_lstore X90 hx (L' := #[.val (.long x0), .second, .val (.long x1), .second, .val (.long x2), .second, .val (.long x3), .second, .val (.int x4), .val (.int x5), .val (.long cn), .second, .val (.int (f1 cn)), .val (.long j), .second, .val (.int (((x5.toUInt32 >>> ((8 : Int32) &&& 31).toUInt32).toInt32) &&& (3 : Int32))), .val (.long k), .second, .val (.ref s1), .val (.ref s2), .val (.ref ds), .val .null, .val (.ref s1), .val .null, .val (.long ((f1 cn) - (1 : Int32)).toInt64), .second, .val (.long (x1 &&& ((f1 cn) - (1 : Int32)).toInt64)), .second, .val (.long (j &&& ((f1 cn) - (1 : Int32)).toInt64)), .second, .val (.long (k &&& ((f1 cn) - (1 : Int32)).toInt64)), .second, .unset]) (q := 241) rfl (hb hby at_239) rfl ?_
              refine k_lload X90 hx (q := 243) rfl (hb hby at_241) rfl ?_
              refine k_lload X90 hx (q := 245) rfl (hb hby at_243) rfl ?_
              refine k_lcmp_ne X90 hx (q1 := 268) (q := 249) (by decide) (by decide) rfl (hb hby at_245) (hb hby at_246) (fun _ => ?_) (fun hc => absurd hc (fun q => hcb (by rw [hm] at q; have := congrArg Int64.toInt q; rw [hlc, hlb] at this; omega)))
              refine k_lload X90 hx (q := 270) rfl (hb hby at_268) rfl ?_
              refine k_lload X90 hx (q := 272) rfl (hb hby at_270) rfl ?_
              refine k_lcmp_ne X90 hx (q1 := 294) (q := 276) (by decide) (by decide) rfl (hb hby at_272) (hb hby at_273) (fun _ => ?_) (fun hc => absurd hc (fun q => hca (by rw [hm] at q; have := congrArg Int64.toInt q; rw [hlc, hla] at this; omega)))
              refine k_aconst_null X90 hx (q := 295) rfl (hb hby at_294) ?_
              refine k_astore X90 hx (L' := #[.val (.long x0), .second, .val (.long x1), .second, .val (.long x2), .second, .val (.long x3), .second, .val (.int x4), .val (.int x5), .val (.long cn), .second, .val (.int (f1 cn)), .val (.long j), .second, .val (.int (((x5.toUInt32 >>> ((8 : Int32) &&& 31).toUInt32).toInt32) &&& (3 : Int32))), .val (.long k), .second, .val (.ref s1), .val (.ref s2), .val (.ref ds), .val .null, .val (.ref s1), .val .null, .val (.long ((f1 cn) - (1 : Int32)).toInt64), .second, .val (.long (x1 &&& ((f1 cn) - (1 : Int32)).toInt64)), .second, .val (.long (j &&& ((f1 cn) - (1 : Int32)).toInt64)), .second, .val (.long (k &&& ((f1 cn) - (1 : Int32)).toInt64)), .second, .val .null]) (q := 297) rfl (hb hby at_295) rfl rfl ?_
              refine k_aload X90 hx (q := 299) rfl (hb hby at_297) rfl rfl ?_
              refine k_ifnonnull_n X90 hx (q := 302) rfl (hb hby at_299) ?_
              refine k_aload X90 hx (q := 304) rfl (hb hby at_302) rfl rfl ?_
              refine k_aload X90 hx (q := 306) rfl (hb hby at_304) rfl rfl ?_
              refine k_acmp_n X90 hx (q := 309) rfl (hb hby at_306) rfl rfl (acmp_ne_f rfl) ?_
              refine k_aload X90 hx (q := 311) rfl (hb hby at_309) rfl rfl ?_
              refine k_aload X90 hx (q := 313) rfl (hb hby at_311) rfl rfl ?_
              refine k_acmp_n X90 hx (q := 316) rfl (hb hby at_313) rfl rfl (acmpV rfl) ?_
              refine k_iconst X90 hx (v := (1 : Int32)) rfl (q := 317) rfl (hb hby at_316) ?_
              refine k_goto X90 hx (q := 321) (by decide) (by decide) (hb hby at_317) ?_
              exact k_retN X90 hx (t := .boolean) hlk (by decide) (by decide) hret (by simp) (hb hby at_321) ⟨rfl, N90⟩
        · have Od81 : Old Z n0 T63.heap := Old.keep Od53 K63 (allS ge_ds (allS ge_ka (allS ge_ia all0)))
          have Gu82 := ((((Gu38.keep K41).keep K42).keep K48).keep K63)
          have Gu83 := (Gu38.keep K41)
          have ne_s2_ds : s2 ≠ ds := Nat.ne_of_lt (Nat.lt_of_lt_of_le (Gu83).lt (Nat.le_of_eq g42.symm))
          have Gu84 := (Gu83.keep K42)
          have ne_s2_ia : s2 ≠ ia := Nat.ne_of_lt (Nat.lt_of_lt_of_le (Gu84).lt li48)
          have ne_s2_ka : s2 ≠ ka := Nat.ne_of_lt (Nat.lt_of_lt_of_le (Gu84).lt lk48)
          have Gu85 := (((G141.keep K42 nin0).keep K48 (ninS ne_s2_ds nin0)).keep K63 (ninS ne_s2_ds (ninS ne_s2_ka (ninS ne_s2_ia nin0))))
          have Gu86 := (((G241.keep K42 nin0).keep K48 (ninS ne_s2_ds nin0)).keep K63 (ninS ne_s2_ds (ninS ne_s2_ka (ninS ne_s2_ia nin0))))
          have ne_bs2_ds : bs2 ≠ ds := Nat.ne_of_lt (Nat.lt_of_lt_of_le (V41).lt (Nat.le_of_eq g42.symm))
          have Gu87 := (V41.keep K42 nin0)
          have ne_bs2_ia : bs2 ≠ ia := Nat.ne_of_lt (Nat.lt_of_lt_of_le (Gu87).lt li48)
          have ne_bs2_ka : bs2 ≠ ka := Nat.ne_of_lt (Nat.lt_of_lt_of_le (Gu87).lt lk48)
          have Gu88 := (((V41.keep K42 nin0).keep K48 (ninS ne_bs2_ds nin0)).keep K63 (ninS ne_bs2_ds (ninS ne_bs2_ka (ninS ne_bs2_ia nin0))))
          refine k_callV X64 hx hZ (y := (⟨"com/example/bones_of_bytecode/bonesofbytecode/DecodedStrings", "keep", "(JLjava/lang/String;)V"⟩ : MethodName)) (z := (⟨"com/example/bones_of_bytecode/bonesofbytecode/DecodedStrings", "keep", "(JLjava/lang/String;)V"⟩ : MethodName)) hown (hw _ (List.mem_of_getElem? (i := 57) rfl)) (hw _ (List.mem_of_getElem? (i := 58) rfl)) (notFace_of_selects (args := #[]) (mvT hZ (hw _ (List.mem_of_getElem? (i := 60) rfl)))) (hw _ (List.mem_of_getElem? (i := 60) rfl)) (hw _ (List.mem_of_getElem? (i := 59) rfl)) (hw _ (List.mem_of_getElem? (i := 61) rfl)) (hw _ (List.mem_of_getElem? (i := 39) rfl)) (by decide) Gu65 0 e64 (rm10n l Z a0 hw ds j s2 T63.heap n0 cs hcs (hS.ext Od81.2) SZ ka ia (fun t => if t = ta then Value.ref s1 else .null) (Jvm.OwnK.upd (fun _ => (0 : Int64)) ta x1) Fk63 Fi63 VK63 VI63 hr1 tb htb hxb ge_ds ge_ka ge_ia (Ne.symm ne_ds_ka) (Ne.symm ne_ds_ia) nki Gu65 ((0 : Int64) - (0 : Int32).toInt64 + (1 : Int32).toInt64) Fu63 kk CK63 OK (by decide) bs2 Gu82 Gu85 Gu86 _ Gu88 (if_neg hba)) (by decide) (by decide) (by decide) (by decide) (by rw [hml]; rfl) (a := ds) (as := [(.long j), (.ref s2)]) (rest := []) pd_10 rfl (by first | exact Nat.le_refl _ | simp [Value.category]) (q := 205) rfl (hb hby at_202) ?_
          rintro _ T89 L89 X89 ⟨rfl, N89q, K89, Fk89, Fi89, Fu89, CK89, VK89, VI89⟩
          have N89 := Fr.app N64 N89q
          show End _ _ _ _ _ _ _ (T89.setTop (mkF m 205 #[.val (.long x0), .second, .val (.long x1), .second, .val (.long x2), .second, .val (.long x3), .second, .val (.int x4), .val (.int x5), .val (.long cn), .second, .val (.int (f1 cn)), .val (.long j), .second, .val (.int (((x5.toUInt32 >>> ((8 : Int32) &&& 31).toUInt32).toInt32) &&& (3 : Int32))), .val (.long k), .second, .val (.ref s1), .val (.ref s2), .val (.ref ds), .val .null, .val (.ref s1), .unset, .unset, .unset, .unset, .unset, .unset, .unset, .unset, .unset, .unset] []))
          have hr2 : ∀ t, ((fun t => if t = tb then Value.ref s2 else (fun t => if t = ta then Value.ref s1 else .null) t) t).isRef = true := fun t => by
            by_cases q : t = tb
            · simp only [if_pos q]; rfl
            · simp only [if_neg q]; exact hr1 t
          refine k_aload X89 hx (q := 207) rfl (hb hby at_205) rfl rfl ?_
          refine k_lload X89 hx (q := 209) rfl (hb hby at_207) rfl ?_
          have Gu105 := (Gu65.keep K89)
          refine k_callV X89 hx hZ (y := (⟨"com/example/bones_of_bytecode/bonesofbytecode/DecodedStrings", "get", "(J)Ljava/lang/String;"⟩ : MethodName)) (z := (⟨"com/example/bones_of_bytecode/bonesofbytecode/DecodedStrings", "get", "(J)Ljava/lang/String;"⟩ : MethodName)) hown (hw _ (List.mem_of_getElem? (i := 52) rfl)) (hw _ (List.mem_of_getElem? (i := 53) rfl)) (notFace_of_selects (args := #[]) (mvT hZ (hw _ (List.mem_of_getElem? (i := 55) rfl)))) (hw _ (List.mem_of_getElem? (i := 55) rfl)) (hw _ (List.mem_of_getElem? (i := 54) rfl)) (hw _ (List.mem_of_getElem? (i := 56) rfl)) (hw _ (List.mem_of_getElem? (i := 39) rfl)) (by decide) Gu105 0 rfl (rm9 l Z a0 hw ds k T89.heap n0 SZ ka ia (fun t => if t = tb then Value.ref s2 else (fun t => if t = ta then Value.ref s1 else .null) t) (Jvm.OwnK.upd (Jvm.OwnK.upd (fun _ => (0 : Int64)) ta x1) tb j) Fk89 Fi89 VK89 VI89 hr2 tc htc hxc) (by decide) (by decide) (by decide) (by decide) (by rw [hml]; rfl) (a := ds) (as := [(.long k)]) (rest := []) pd_9 rfl (by first | exact Nat.le_refl _ | simp [Value.category]) (q := 212) rfl (hb hby at_209) ?_
          rintro _ T104 L104 X104 ⟨rfl, N104q, e104⟩
          have N104 := Fr.app N89 N104q
          show End _ _ _ _ _ _ _ (T104.setTop (mkF m 212 #[.val (.long x0), .second, .val (.long x1), .second, .val (.long x2), .second, .val (.long x3), .second, .val (.int x4), .val (.int x5), .val (.long cn), .second, .val (.int (f1 cn)), .val (.long j), .second, .val (.int (((x5.toUInt32 >>> ((8 : Int32) &&& 31).toUInt32).toInt32) &&& (3 : Int32))), .val (.long k), .second, .val (.ref s1), .val (.ref s2), .val (.ref ds), .val .null, .val (.ref s1), .unset, .unset, .unset, .unset, .unset, .unset, .unset, .unset, .unset, .unset] [(if (Jvm.OwnK.upd (Jvm.OwnK.upd (fun _ => (0 : Int64)) ta x1) tb j) tc = k then (fun t => if t = tb then Value.ref s2 else (fun t => if t = ta then Value.ref s1 else .null) t) tc else .null)]))
          have hm : f1 cn = SZ.toInt32 := hfs
          by_cases hcb : tc = tb
          · by_cases hkj : k = j
            · rw [show (if (Jvm.OwnK.upd (Jvm.OwnK.upd (fun _ => (0 : Int64)) ta x1) tb j) tc = k then (fun t => if t = tb then Value.ref s2 else (fun t => if t = ta then Value.ref s1 else .null) t) tc else .null) = Value.ref s2 from by
                rw [hcb, Jvm.OwnK.upd_same, if_pos hkj.symm]; exact if_pos rfl]
              show End _ _ _ _ _ _ _ (T104.setTop (mkF m 212 #[.val (.long x0), .second, .val (.long x1), .second, .val (.long x2), .second, .val (.long x3), .second, .val (.int x4), .val (.int x5), .val (.long cn), .second, .val (.int (f1 cn)), .val (.long j), .second, .val (.int (((x5.toUInt32 >>> ((8 : Int32) &&& 31).toUInt32).toInt32) &&& (3 : Int32))), .val (.long k), .second, .val (.ref s1), .val (.ref s2), .val (.ref ds), .val .null, .val (.ref s1), .unset, .unset, .unset, .unset, .unset, .unset, .unset, .unset, .unset, .unset] [(.ref s2)]))
              refine k_astore X104 hx (L' := #[.val (.long x0), .second, .val (.long x1), .second, .val (.long x2), .second, .val (.long x3), .second, .val (.int x4), .val (.int x5), .val (.long cn), .second, .val (.int (f1 cn)), .val (.long j), .second, .val (.int (((x5.toUInt32 >>> ((8 : Int32) &&& 31).toUInt32).toInt32) &&& (3 : Int32))), .val (.long k), .second, .val (.ref s1), .val (.ref s2), .val (.ref ds), .val .null, .val (.ref s1), .val (.ref s2), .unset, .unset, .unset, .unset, .unset, .unset, .unset, .unset, .unset]) (q := 214) rfl (hb hby at_212) rfl rfl ?_
              refine k_iload X104 hx (q := 216) rfl (hb hby at_214) rfl ?_
              refine k_iconst X104 hx (v := (1 : Int32)) rfl (q := 217) rfl (hb hby at_216) ?_
              refine k_isub X104 hx (q := 218) rfl (hb hby at_217) ?_
              refine k_i2l X104 hx (q := 219) rfl (hb hby at_218) ?_
              refine k_lstore X104 hx (L' := #[.val (.long x0), .second, .val (.long x1), .second, .val (.long x2), .second, .val (.long x3), .second, .val (.int x4), .val (.int x5), .val (.long cn), .second, .val (.int (f1 cn)), .val (.long j), .second, .val (.int (((x5.toUInt32 >>> ((8 : Int32) &&& 31).toUInt32).toInt32) &&& (3 : Int32))), .val (.long k), .second, .val (.ref s1), .val (.ref s2), .val (.ref ds), .val .null, .val (.ref s1), .val (.ref s2), .val (.long ((f1 cn) - (1 : Int32)).toInt64), .second, .unset, .unset, .unset, .unset, .unset, .unset, .unset]) (q := 221) rfl (hb hby at_219) rfl ?_
              refine k_lloadN X104 hx (q := 222) rfl (hb hby at_221) rfl ?_
              refine k_lload X104 hx (q := 224) rfl (hb hby at_222) rfl ?_
              refine k_land X104 hx (q := 225) rfl (hb hby at_224) ?_
              refine k_lstore X104 hx (L' := #[.val (.long x0), .second, .val (.long x1), .second, .val (.long x2), .second, .val (.long x3), .second, .val (.int x4), .val (.int x5), .val (.long cn), .second, .val (.int (f1 cn)), .val (.long j), .second, .val (.int (((x5.toUInt32 >>> ((8 : Int32) &&& 31).toUInt32).toInt32) &&& (3 : Int32))), .val (.long k), .second, .val (.ref s1), .val (.ref s2), .val (.ref ds), .val .null, .val (.ref s1), .val (.ref s2), .val (.long ((f1 cn) - (1 : Int32)).toInt64), .second, .val (.long (x1 &&& ((f1 cn) - (1 : Int32)).toInt64)), .second, .unset, .unset, .unset, .unset, .unset]) (q := 227) rfl (hb hby at_225) rfl ?_
              refine k_lload X104 hx (q := 229) rfl (hb hby at_227) rfl ?_
              refine k_lload X104 hx (q := 231) rfl (hb hby at_229) rfl ?_
              refine k_land X104 hx (q := 232) rfl (hb hby at_231) ?_
              refine k_lstore X104 hx (L' := #[.val (.long x0), .second, .val (.long x1), .second, .val (.long x2), .second, .val (.long x3), .second, .val (.int x4), .val (.int x5), .val (.long cn), .second, .val (.int (f1 cn)), .val (.long j), .second, .val (.int (((x5.toUInt32 >>> ((8 : Int32) &&& 31).toUInt32).toInt32) &&& (3 : Int32))), .val (.long k), .second, .val (.ref s1), .val (.ref s2), .val (.ref ds), .val .null, .val (.ref s1), .val (.ref s2), .val (.long ((f1 cn) - (1 : Int32)).toInt64), .second, .val (.long (x1 &&& ((f1 cn) - (1 : Int32)).toInt64)), .second, .val (.long (j &&& ((f1 cn) - (1 : Int32)).toInt64)), .second, .unset, .unset, .unset]) (q := 234) rfl (hb hby at_232) rfl ?_
              refine k_lload X104 hx (q := 236) rfl (hb hby at_234) rfl ?_
              refine k_lload X104 hx (q := 238) rfl (hb hby at_236) rfl ?_
              refine k_land X104 hx (q := 239) rfl (hb hby at_238) ?_
              refine k_lstore X104 hx (L' := #[.val (.long x0), .second, .val (.long x1), .second, .val (.long x2), .second, .val (.long x3), .second, .val (.int x4), .val (.int x5), .val (.long cn), .second, .val (.int (f1 cn)), .val (.long j), .second, .val (.int (((x5.toUInt32 >>> ((8 : Int32) &&& 31).toUInt32).toInt32) &&& (3 : Int32))), .val (.long k), .second, .val (.ref s1), .val (.ref s2), .val (.ref ds), .val .null, .val (.ref s1), .val (.ref s2), .val (.long ((f1 cn) - (1 : Int32)).toInt64), .second, .val (.long (x1 &&& ((f1 cn) - (1 : Int32)).toInt64)), .second, .val (.long (j &&& ((f1 cn) - (1 : Int32)).toInt64)), .second, .val (.long (k &&& ((f1 cn) - (1 : Int32)).toInt64)), .second, .unset]) (q := 241) rfl (hb hby at_239) rfl ?_
              refine k_lload X104 hx (q := 243) rfl (hb hby at_241) rfl ?_
              refine k_lload X104 hx (q := 245) rfl (hb hby at_243) rfl ?_
              refine k_lcmp_ne X104 hx (q1 := 268) (q := 249) (by decide) (by decide) rfl (hb hby at_245) (hb hby at_246) (fun hc => absurd (by rw [hm]; exact Int64.toInt_inj.mp (by rw [hlc, hlb, hcb])) hc) (fun _ => ?_)
              refine k_lload X104 hx (q := 251) rfl (hb hby at_249) rfl ?_
              refine k_lload X104 hx (q := 253) rfl (hb hby at_251) rfl ?_
              refine k_lcmp_ne X104 hx (q1 := 262) (q := 257) (by decide) (by decide) rfl (hb hby at_253) (hb hby at_254) (fun hc => absurd hkj hc) (fun _ => ?_)
              refine k_aload X104 hx (q := 259) rfl (hb hby at_257) rfl rfl ?_
              refine k_goto X104 hx (q := 263) (by decide) (by decide) (hb hby at_259) ?_
              refine k_astore X104 hx (L' := #[.val (.long x0), .second, .val (.long x1), .second, .val (.long x2), .second, .val (.long x3), .second, .val (.int x4), .val (.int x5), .val (.long cn), .second, .val (.int (f1 cn)), .val (.long j), .second, .val (.int (((x5.toUInt32 >>> ((8 : Int32) &&& 31).toUInt32).toInt32) &&& (3 : Int32))), .val (.long k), .second, .val (.ref s1), .val (.ref s2), .val (.ref ds), .val .null, .val (.ref s1), .val (.ref s2), .val (.long ((f1 cn) - (1 : Int32)).toInt64), .second, .val (.long (x1 &&& ((f1 cn) - (1 : Int32)).toInt64)), .second, .val (.long (j &&& ((f1 cn) - (1 : Int32)).toInt64)), .second, .val (.long (k &&& ((f1 cn) - (1 : Int32)).toInt64)), .second, .val (.ref s2)]) (q := 265) rfl (hb hby at_263) rfl rfl ?_
              refine k_goto X104 hx (q := 297) (by decide) (by decide) (hb hby at_265) ?_
              refine k_aload X104 hx (q := 299) rfl (hb hby at_297) rfl rfl ?_
              refine k_ifnonnull_n X104 hx (q := 302) rfl (hb hby at_299) ?_
              refine k_aload X104 hx (q := 304) rfl (hb hby at_302) rfl rfl ?_
              refine k_aload X104 hx (q := 306) rfl (hb hby at_304) rfl rfl ?_
              refine k_acmp_n X104 hx (q := 309) rfl (hb hby at_306) rfl rfl (acmp_ne_f rfl) ?_
              refine k_aload X104 hx (q := 311) rfl (hb hby at_309) rfl rfl ?_
              refine k_aload X104 hx (q := 313) rfl (hb hby at_311) rfl rfl ?_
              refine k_acmp_n X104 hx (q := 316) rfl (hb hby at_313) rfl rfl (acmpV rfl) ?_
              refine k_iconst X104 hx (v := (1 : Int32)) rfl (q := 317) rfl (hb hby at_316) ?_
              refine k_goto X104 hx (q := 321) (by decide) (by decide) (hb hby at_317) ?_
              exact k_retN X104 hx (t := .boolean) hlk (by decide) (by decide) hret (by simp) (hb hby at_321) ⟨rfl, N104⟩
            · rw [show (if (Jvm.OwnK.upd (Jvm.OwnK.upd (fun _ => (0 : Int64)) ta x1) tb j) tc = k then (fun t => if t = tb then Value.ref s2 else (fun t => if t = ta then Value.ref s1 else .null) t) tc else .null) = Value.null from by
                rw [hcb, Jvm.OwnK.upd_same, if_neg (fun q => hkj q.symm)]]
              show End _ _ _ _ _ _ _ (T104.setTop (mkF m 212 #[.val (.long x0), .second, .val (.long x1), .second, .val (.long x2), .second, .val (.long x3), .second, .val (.int x4), .val (.int x5), .val (.long cn), .second, .val (.int (f1 cn)), .val (.long j), .second, .val (.int (((x5.toUInt32 >>> ((8 : Int32) &&& 31).toUInt32).toInt32) &&& (3 : Int32))), .val (.long k), .second, .val (.ref s1), .val (.ref s2), .val (.ref ds), .val .null, .val (.ref s1), .unset, .unset, .unset, .unset, .unset, .unset, .unset, .unset, .unset, .unset] [.null]))
              refine k_astore X104 hx (L' := #[.val (.long x0), .second, .val (.long x1), .second, .val (.long x2), .second, .val (.long x3), .second, .val (.int x4), .val (.int x5), .val (.long cn), .second, .val (.int (f1 cn)), .val (.long j), .second, .val (.int (((x5.toUInt32 >>> ((8 : Int32) &&& 31).toUInt32).toInt32) &&& (3 : Int32))), .val (.long k), .second, .val (.ref s1), .val (.ref s2), .val (.ref ds), .val .null, .val (.ref s1), .val .null, .unset, .unset, .unset, .unset, .unset, .unset, .unset, .unset, .unset]) (q := 214) rfl (hb hby at_212) rfl rfl ?_
              refine k_iload X104 hx (q := 216) rfl (hb hby at_214) rfl ?_
              refine k_iconst X104 hx (v := (1 : Int32)) rfl (q := 217) rfl (hb hby at_216) ?_
              refine k_isub X104 hx (q := 218) rfl (hb hby at_217) ?_
              refine k_i2l X104 hx (q := 219) rfl (hb hby at_218) ?_
              refine k_lstore X104 hx (L' := #[.val (.long x0), .second, .val (.long x1), .second, .val (.long x2), .second, .val (.long x3), .second, .val (.int x4), .val (.int x5), .val (.long cn), .second, .val (.int (f1 cn)), .val (.long j), .second, .val (.int (((x5.toUInt32 >>> ((8 : Int32) &&& 31).toUInt32).toInt32) &&& (3 : Int32))), .val (.long k), .second, .val (.ref s1), .val (.ref s2), .val (.ref ds), .val .null, .val (.ref s1), .val .null, .val (.long ((f1 cn) - (1 : Int32)).toInt64), .second, .unset, .unset, .unset, .unset, .unset, .unset, .unset]) (q := 221) rfl (hb hby at_219) rfl ?_
              refine k_lloadN X104 hx (q := 222) rfl (hb hby at_221) rfl ?_
              refine k_lload X104 hx (q := 224) rfl (hb hby at_222) rfl ?_
              refine k_land X104 hx (q := 225) rfl (hb hby at_224) ?_
              refine k_lstore X104 hx (L' := #[.val (.long x0), .second, .val (.long x1), .second, .val (.long x2), .second, .val (.long x3), .second, .val (.int x4), .val (.int x5), .val (.long cn), .second, .val (.int (f1 cn)), .val (.long j), .second, .val (.int (((x5.toUInt32 >>> ((8 : Int32) &&& 31).toUInt32).toInt32) &&& (3 : Int32))), .val (.long k), .second, .val (.ref s1), .val (.ref s2), .val (.ref ds), .val .null, .val (.ref s1), .val .null, .val (.long ((f1 cn) - (1 : Int32)).toInt64), .second, .val (.long (x1 &&& ((f1 cn) - (1 : Int32)).toInt64)), .second, .unset, .unset, .unset, .unset, .unset]) (q := 227) rfl (hb hby at_225) rfl ?_
              refine k_lload X104 hx (q := 229) rfl (hb hby at_227) rfl ?_
              refine k_lload X104 hx (q := 231) rfl (hb hby at_229) rfl ?_
              refine k_land X104 hx (q := 232) rfl (hb hby at_231) ?_
              refine k_lstore X104 hx (L' := #[.val (.long x0), .second, .val (.long x1), .second, .val (.long x2), .second, .val (.long x3), .second, .val (.int x4), .val (.int x5), .val (.long cn), .second, .val (.int (f1 cn)), .val (.long j), .second, .val (.int (((x5.toUInt32 >>> ((8 : Int32) &&& 31).toUInt32).toInt32) &&& (3 : Int32))), .val (.long k), .second, .val (.ref s1), .val (.ref s2), .val (.ref ds), .val .null, .val (.ref s1), .val .null, .val (.long ((f1 cn) - (1 : Int32)).toInt64), .second, .val (.long (x1 &&& ((f1 cn) - (1 : Int32)).toInt64)), .second, .val (.long (j &&& ((f1 cn) - (1 : Int32)).toInt64)), .second, .unset, .unset, .unset]) (q := 234) rfl (hb hby at_232) rfl ?_
              refine k_lload X104 hx (q := 236) rfl (hb hby at_234) rfl ?_
              refine k_lload X104 hx (q := 238) rfl (hb hby at_236) rfl ?_
              refine k_land X104 hx (q := 239) rfl (hb hby at_238) ?_
              refine k_lstore X104 hx (L' := #[.val (.long x0), .second, .val (.long x1), .second, .val (.long x2), .second, .val (.long x3), .second, .val (.int x4), .val (.int x5), .val (.long cn), .second, .val (.int (f1 cn)), .val (.long j), .second, .val (.int (((x5.toUInt32 >>> ((8 : Int32) &&& 31).toUInt32).toInt32) &&& (3 : Int32))), .val (.long k), .second, .val (.ref s1), .val (.ref s2), .val (.ref ds), .val .null, .val (.ref s1), .val .null, .val (.long ((f1 cn) - (1 : Int32)).toInt64), .second, .val (.long (x1 &&& ((f1 cn) - (1 : Int32)).toInt64)), .second, .val (.long (j &&& ((f1 cn) - (1 : Int32)).toInt64)), .second, .val (.long (k &&& ((f1 cn) - (1 : Int32)).toInt64)), .second, .unset]) (q := 241) rfl (hb hby at_239) rfl ?_
              refine k_lload X104 hx (q := 243) rfl (hb hby at_241) rfl ?_
              refine k_lload X104 hx (q := 245) rfl (hb hby at_243) rfl ?_
              refine k_lcmp_ne X104 hx (q1 := 268) (q := 249) (by decide) (by decide) rfl (hb hby at_245) (hb hby at_246) (fun hc => absurd (by rw [hm]; exact Int64.toInt_inj.mp (by rw [hlc, hlb, hcb])) hc) (fun _ => ?_)
              refine k_lload X104 hx (q := 251) rfl (hb hby at_249) rfl ?_
              refine k_lload X104 hx (q := 253) rfl (hb hby at_251) rfl ?_
              refine k_lcmp_ne X104 hx (q1 := 262) (q := 257) (by decide) (by decide) rfl (hb hby at_253) (hb hby at_254) (fun _ => ?_) (fun hc => absurd hc hkj)
              refine k_aconst_null X104 hx (q := 263) rfl (hb hby at_262) ?_
              refine k_astore X104 hx (L' := #[.val (.long x0), .second, .val (.long x1), .second, .val (.long x2), .second, .val (.long x3), .second, .val (.int x4), .val (.int x5), .val (.long cn), .second, .val (.int (f1 cn)), .val (.long j), .second, .val (.int (((x5.toUInt32 >>> ((8 : Int32) &&& 31).toUInt32).toInt32) &&& (3 : Int32))), .val (.long k), .second, .val (.ref s1), .val (.ref s2), .val (.ref ds), .val .null, .val (.ref s1), .val .null, .val (.long ((f1 cn) - (1 : Int32)).toInt64), .second, .val (.long (x1 &&& ((f1 cn) - (1 : Int32)).toInt64)), .second, .val (.long (j &&& ((f1 cn) - (1 : Int32)).toInt64)), .second, .val (.long (k &&& ((f1 cn) - (1 : Int32)).toInt64)), .second, .val .null]) (q := 265) rfl (hb hby at_263) rfl rfl ?_
              refine k_goto X104 hx (q := 297) (by decide) (by decide) (hb hby at_265) ?_
              refine k_aload X104 hx (q := 299) rfl (hb hby at_297) rfl rfl ?_
              refine k_ifnonnull_n X104 hx (q := 302) rfl (hb hby at_299) ?_
              refine k_aload X104 hx (q := 304) rfl (hb hby at_302) rfl rfl ?_
              refine k_aload X104 hx (q := 306) rfl (hb hby at_304) rfl rfl ?_
              refine k_acmp_n X104 hx (q := 309) rfl (hb hby at_306) rfl rfl (acmp_ne_f rfl) ?_
              refine k_aload X104 hx (q := 311) rfl (hb hby at_309) rfl rfl ?_
              refine k_aload X104 hx (q := 313) rfl (hb hby at_311) rfl rfl ?_
              refine k_acmp_n X104 hx (q := 316) rfl (hb hby at_313) rfl rfl (acmpV rfl) ?_
              refine k_iconst X104 hx (v := (1 : Int32)) rfl (q := 317) rfl (hb hby at_316) ?_
              refine k_goto X104 hx (q := 321) (by decide) (by decide) (hb hby at_317) ?_
              exact k_retN X104 hx (t := .boolean) hlk (by decide) (by decide) hret (by simp) (hb hby at_321) ⟨rfl, N104⟩
          · by_cases hca : tc = ta
            · by_cases hki : k = x1
              · rw [show (if (Jvm.OwnK.upd (Jvm.OwnK.upd (fun _ => (0 : Int64)) ta x1) tb j) tc = k then (fun t => if t = tb then Value.ref s2 else (fun t => if t = ta then Value.ref s1 else .null) t) tc else .null) = Value.ref s1 from by
                  rw [Jvm.OwnK.upd_other _ _ hcb, hca, Jvm.OwnK.upd_same, if_pos hki.symm]; simp only [if_neg (fun q => hcb (hca.trans q)), if_true]]
                show End _ _ _ _ _ _ _ (T104.setTop (mkF m 212 #[.val (.long x0), .second, .val (.long x1), .second, .val (.long x2), .second, .val (.long x3), .second, .val (.int x4), .val (.int x5), .val (.long cn), .second, .val (.int (f1 cn)), .val (.long j), .second, .val (.int (((x5.toUInt32 >>> ((8 : Int32) &&& 31).toUInt32).toInt32) &&& (3 : Int32))), .val (.long k), .second, .val (.ref s1), .val (.ref s2), .val (.ref ds), .val .null, .val (.ref s1), .unset, .unset, .unset, .unset, .unset, .unset, .unset, .unset, .unset, .unset] [(.ref s1)]))
                refine k_astore X104 hx (L' := #[.val (.long x0), .second, .val (.long x1), .second, .val (.long x2), .second, .val (.long x3), .second, .val (.int x4), .val (.int x5), .val (.long cn), .second, .val (.int (f1 cn)), .val (.long j), .second, .val (.int (((x5.toUInt32 >>> ((8 : Int32) &&& 31).toUInt32).toInt32) &&& (3 : Int32))), .val (.long k), .second, .val (.ref s1), .val (.ref s2), .val (.ref ds), .val .null, .val (.ref s1), .val (.ref s1), .unset, .unset, .unset, .unset, .unset, .unset, .unset, .unset, .unset]) (q := 214) rfl (hb hby at_212) rfl rfl ?_
                refine k_iload X104 hx (q := 216) rfl (hb hby at_214) rfl ?_
                refine k_iconst X104 hx (v := (1 : Int32)) rfl (q := 217) rfl (hb hby at_216) ?_
                refine k_isub X104 hx (q := 218) rfl (hb hby at_217) ?_
                refine k_i2l X104 hx (q := 219) rfl (hb hby at_218) ?_
                refine k_lstore X104 hx (L' := #[.val (.long x0), .second, .val (.long x1), .second, .val (.long x2), .second, .val (.long x3), .second, .val (.int x4), .val (.int x5), .val (.long cn), .second, .val (.int (f1 cn)), .val (.long j), .second, .val (.int (((x5.toUInt32 >>> ((8 : Int32) &&& 31).toUInt32).toInt32) &&& (3 : Int32))), .val (.long k), .second, .val (.ref s1), .val (.ref s2), .val (.ref ds), .val .null, .val (.ref s1), .val (.ref s1), .val (.long ((f1 cn) - (1 : Int32)).toInt64), .second, .unset, .unset, .unset, .unset, .unset, .unset, .unset]) (q := 221) rfl (hb hby at_219) rfl ?_
                refine k_lloadN X104 hx (q := 222) rfl (hb hby at_221) rfl ?_
                refine k_lload X104 hx (q := 224) rfl (hb hby at_222) rfl ?_
                refine k_land X104 hx (q := 225) rfl (hb hby at_224) ?_
                refine k_lstore X104 hx (L' := #[.val (.long x0), .second, .val (.long x1), .second, .val (.long x2), .second, .val (.long x3), .second, .val (.int x4), .val (.int x5), .val (.long cn), .second, .val (.int (f1 cn)), .val (.long j), .second, .val (.int (((x5.toUInt32 >>> ((8 : Int32) &&& 31).toUInt32).toInt32) &&& (3 : Int32))), .val (.long k), .second, .val (.ref s1), .val (.ref s2), .val (.ref ds), .val .null, .val (.ref s1), .val (.ref s1), .val (.long ((f1 cn) - (1 : Int32)).toInt64), .second, .val (.long (x1 &&& ((f1 cn) - (1 : Int32)).toInt64)), .second, .unset, .unset, .unset, .unset, .unset]) (q := 227) rfl (hb hby at_225) rfl ?_
                refine k_lload X104 hx (q := 229) rfl (hb hby at_227) rfl ?_
                refine k_lload X104 hx (q := 231) rfl (hb hby at_229) rfl ?_
                refine k_land X104 hx (q := 232) rfl (hb hby at_231) ?_
                refine k_lstore X104 hx (L' := #[.val (.long x0), .second, .val (.long x1), .second, .val (.long x2), .second, .val (.long x3), .second, .val (.int x4), .val (.int x5), .val (.long cn), .second, .val (.int (f1 cn)), .val (.long j), .second, .val (.int (((x5.toUInt32 >>> ((8 : Int32) &&& 31).toUInt32).toInt32) &&& (3 : Int32))), .val (.long k), .second, .val (.ref s1), .val (.ref s2), .val (.ref ds), .val .null, .val (.ref s1), .val (.ref s1), .val (.long ((f1 cn) - (1 : Int32)).toInt64), .second, .val (.long (x1 &&& ((f1 cn) - (1 : Int32)).toInt64)), .second, .val (.long (j &&& ((f1 cn) - (1 : Int32)).toInt64)), .second, .unset, .unset, .unset]) (q := 234) rfl (hb hby at_232) rfl ?_
                refine k_lload X104 hx (q := 236) rfl (hb hby at_234) rfl ?_
                refine k_lload X104 hx (q := 238) rfl (hb hby at_236) rfl ?_
                refine k_land X104 hx (q := 239) rfl (hb hby at_238) ?_
                refine k_lstore X104 hx (L' := #[.val (.long x0), .second, .val (.long x1), .second, .val (.long x2), .second, .val (.long x3), .second, .val (.int x4), .val (.int x5), .val (.long cn), .second, .val (.int (f1 cn)), .val (.long j), .second, .val (.int (((x5.toUInt32 >>> ((8 : Int32) &&& 31).toUInt32).toInt32) &&& (3 : Int32))), .val (.long k), .second, .val (.ref s1), .val (.ref s2), .val (.ref ds), .val .null, .val (.ref s1), .val (.ref s1), .val (.long ((f1 cn) - (1 : Int32)).toInt64), .second, .val (.long (x1 &&& ((f1 cn) - (1 : Int32)).toInt64)), .second, .val (.long (j &&& ((f1 cn) - (1 : Int32)).toInt64)), .second, .val (.long (k &&& ((f1 cn) - (1 : Int32)).toInt64)), .second, .unset]) (q := 241) rfl (hb hby at_239) rfl ?_
                refine k_lload X104 hx (q := 243) rfl (hb hby at_241) rfl ?_
                refine k_lload X104 hx (q := 245) rfl (hb hby at_243) rfl ?_
                refine k_lcmp_ne X104 hx (q1 := 268) (q := 249) (by decide) (by decide) rfl (hb hby at_245) (hb hby at_246) (fun _ => ?_) (fun hc => absurd hc (fun q => hcb (by rw [hm] at q; have := congrArg Int64.toInt q; rw [hlc, hlb] at this; omega)))
                refine k_lload X104 hx (q := 270) rfl (hb hby at_268) rfl ?_
                refine k_lload X104 hx (q := 272) rfl (hb hby at_270) rfl ?_
                refine k_lcmp_ne X104 hx (q1 := 294) (q := 276) (by decide) (by decide) rfl (hb hby at_272) (hb hby at_273) (fun hc => absurd (by rw [hm]; exact Int64.toInt_inj.mp (by rw [hlc, hla, hca])) hc) (fun _ => ?_)
                refine k_lload X104 hx (q := 278) rfl (hb hby at_276) rfl ?_
                refine k_lloadN X104 hx (q := 279) rfl (hb hby at_278) rfl ?_
                refine k_lcmp_ne X104 hx (q1 := 288) (q := 283) (by decide) (by decide) rfl (hb hby at_279) (hb hby at_280) (fun hc => absurd hki hc) (fun _ => ?_)
                refine k_aload X104 hx (q := 285) rfl (hb hby at_283) rfl rfl ?_
                refine k_goto X104 hx (q := 289) (by decide) (by decide) (hb hby at_285) ?_
                refine k_astore X104 hx (L' := #[.val (.long x0), .second, .val (.long x1), .second, .val (.long x2), .second, .val (.long x3), .second, .val (.int x4), .val (.int x5), .val (.long cn), .second, .val (.int (f1 cn)), .val (.long j), .second, .val (.int (((x5.toUInt32 >>> ((8 : Int32) &&& 31).toUInt32).toInt32) &&& (3 : Int32))), .val (.long k), .second, .val (.ref s1), .val (.ref s2), .val (.ref ds), .val .null, .val (.ref s1), .val (.ref s1), .val (.long ((f1 cn) - (1 : Int32)).toInt64), .second, .val (.long (x1 &&& ((f1 cn) - (1 : Int32)).toInt64)), .second, .val (.long (j &&& ((f1 cn) - (1 : Int32)).toInt64)), .second, .val (.long (k &&& ((f1 cn) - (1 : Int32)).toInt64)), .second, .val (.ref s1)]) (q := 291) rfl (hb hby at_289) rfl rfl ?_
                refine k_goto X104 hx (q := 297) (by decide) (by decide) (hb hby at_291) ?_
                refine k_aload X104 hx (q := 299) rfl (hb hby at_297) rfl rfl ?_
                refine k_ifnonnull_n X104 hx (q := 302) rfl (hb hby at_299) ?_
                refine k_aload X104 hx (q := 304) rfl (hb hby at_302) rfl rfl ?_
                refine k_aload X104 hx (q := 306) rfl (hb hby at_304) rfl rfl ?_
                refine k_acmp_n X104 hx (q := 309) rfl (hb hby at_306) rfl rfl (acmp_ne_f rfl) ?_
                refine k_aload X104 hx (q := 311) rfl (hb hby at_309) rfl rfl ?_
                refine k_aload X104 hx (q := 313) rfl (hb hby at_311) rfl rfl ?_
                refine k_acmp_n X104 hx (q := 316) rfl (hb hby at_313) rfl rfl (acmpV rfl) ?_
                refine k_iconst X104 hx (v := (1 : Int32)) rfl (q := 317) rfl (hb hby at_316) ?_
                refine k_goto X104 hx (q := 321) (by decide) (by decide) (hb hby at_317) ?_
                exact k_retN X104 hx (t := .boolean) hlk (by decide) (by decide) hret (by simp) (hb hby at_321) ⟨rfl, N104⟩
              · rw [show (if (Jvm.OwnK.upd (Jvm.OwnK.upd (fun _ => (0 : Int64)) ta x1) tb j) tc = k then (fun t => if t = tb then Value.ref s2 else (fun t => if t = ta then Value.ref s1 else .null) t) tc else .null) = Value.null from by
                  rw [Jvm.OwnK.upd_other _ _ hcb, hca, Jvm.OwnK.upd_same, if_neg (fun q => hki q.symm)]]
                show End _ _ _ _ _ _ _ (T104.setTop (mkF m 212 #[.val (.long x0), .second, .val (.long x1), .second, .val (.long x2), .second, .val (.long x3), .second, .val (.int x4), .val (.int x5), .val (.long cn), .second, .val (.int (f1 cn)), .val (.long j), .second, .val (.int (((x5.toUInt32 >>> ((8 : Int32) &&& 31).toUInt32).toInt32) &&& (3 : Int32))), .val (.long k), .second, .val (.ref s1), .val (.ref s2), .val (.ref ds), .val .null, .val (.ref s1), .unset, .unset, .unset, .unset, .unset, .unset, .unset, .unset, .unset, .unset] [.null]))
                refine k_astore X104 hx (L' := #[.val (.long x0), .second, .val (.long x1), .second, .val (.long x2), .second, .val (.long x3), .second, .val (.int x4), .val (.int x5), .val (.long cn), .second, .val (.int (f1 cn)), .val (.long j), .second, .val (.int (((x5.toUInt32 >>> ((8 : Int32) &&& 31).toUInt32).toInt32) &&& (3 : Int32))), .val (.long k), .second, .val (.ref s1), .val (.ref s2), .val (.ref ds), .val .null, .val (.ref s1), .val .null, .unset, .unset, .unset, .unset, .unset, .unset, .unset, .unset, .unset]) (q := 214) rfl (hb hby at_212) rfl rfl ?_
                refine k_iload X104 hx (q := 216) rfl (hb hby at_214) rfl ?_
                refine k_iconst X104 hx (v := (1 : Int32)) rfl (q := 217) rfl (hb hby at_216) ?_
                refine k_isub X104 hx (q := 218) rfl (hb hby at_217) ?_
                refine k_i2l X104 hx (q := 219) rfl (hb hby at_218) ?_
                refine k_lstore X104 hx (L' := #[.val (.long x0), .second, .val (.long x1), .second, .val (.long x2), .second, .val (.long x3), .second, .val (.int x4), .val (.int x5), .val (.long cn), .second, .val (.int (f1 cn)), .val (.long j), .second, .val (.int (((x5.toUInt32 >>> ((8 : Int32) &&& 31).toUInt32).toInt32) &&& (3 : Int32))), .val (.long k), .second, .val (.ref s1), .val (.ref s2), .val (.ref ds), .val .null, .val (.ref s1), .val .null, .val (.long ((f1 cn) - (1 : Int32)).toInt64), .second, .unset, .unset, .unset, .unset, .unset, .unset, .unset]) (q := 221) rfl (hb hby at_219) rfl ?_
                refine k_lloadN X104 hx (q := 222) rfl (hb hby at_221) rfl ?_
                refine k_lload X104 hx (q := 224) rfl (hb hby at_222) rfl ?_
                refine k_land X104 hx (q := 225) rfl (hb hby at_224) ?_
                refine k_lstore X104 hx (L' := #[.val (.long x0), .second, .val (.long x1), .second, .val (.long x2), .second, .val (.long x3), .second, .val (.int x4), .val (.int x5), .val (.long cn), .second, .val (.int (f1 cn)), .val (.long j), .second, .val (.int (((x5.toUInt32 >>> ((8 : Int32) &&& 31).toUInt32).toInt32) &&& (3 : Int32))), .val (.long k), .second, .val (.ref s1), .val (.ref s2), .val (.ref ds), .val .null, .val (.ref s1), .val .null, .val (.long ((f1 cn) - (1 : Int32)).toInt64), .second, .val (.long (x1 &&& ((f1 cn) - (1 : Int32)).toInt64)), .second, .unset, .unset, .unset, .unset, .unset]) (q := 227) rfl (hb hby at_225) rfl ?_
                refine k_lload X104 hx (q := 229) rfl (hb hby at_227) rfl ?_
                refine k_lload X104 hx (q := 231) rfl (hb hby at_229) rfl ?_
                refine k_land X104 hx (q := 232) rfl (hb hby at_231) ?_
                refine k_lstore X104 hx (L' := #[.val (.long x0), .second, .val (.long x1), .second, .val (.long x2), .second, .val (.long x3), .second, .val (.int x4), .val (.int x5), .val (.long cn), .second, .val (.int (f1 cn)), .val (.long j), .second, .val (.int (((x5.toUInt32 >>> ((8 : Int32) &&& 31).toUInt32).toInt32) &&& (3 : Int32))), .val (.long k), .second, .val (.ref s1), .val (.ref s2), .val (.ref ds), .val .null, .val (.ref s1), .val .null, .val (.long ((f1 cn) - (1 : Int32)).toInt64), .second, .val (.long (x1 &&& ((f1 cn) - (1 : Int32)).toInt64)), .second, .val (.long (j &&& ((f1 cn) - (1 : Int32)).toInt64)), .second, .unset, .unset, .unset]) (q := 234) rfl (hb hby at_232) rfl ?_
                refine k_lload X104 hx (q := 236) rfl (hb hby at_234) rfl ?_
                refine k_lload X104 hx (q := 238) rfl (hb hby at_236) rfl ?_
                refine k_land X104 hx (q := 239) rfl (hb hby at_238) ?_
                refine k_lstore X104 hx (L' := #[.val (.long x0), .second, .val (.long x1), .second, .val (.long x2), .second, .val (.long x3), .second, .val (.int x4), .val (.int x5), .val (.long cn), .second, .val (.int (f1 cn)), .val (.long j), .second, .val (.int (((x5.toUInt32 >>> ((8 : Int32) &&& 31).toUInt32).toInt32) &&& (3 : Int32))), .val (.long k), .second, .val (.ref s1), .val (.ref s2), .val (.ref ds), .val .null, .val (.ref s1), .val .null, .val (.long ((f1 cn) - (1 : Int32)).toInt64), .second, .val (.long (x1 &&& ((f1 cn) - (1 : Int32)).toInt64)), .second, .val (.long (j &&& ((f1 cn) - (1 : Int32)).toInt64)), .second, .val (.long (k &&& ((f1 cn) - (1 : Int32)).toInt64)), .second, .unset]) (q := 241) rfl (hb hby at_239) rfl ?_
                refine k_lload X104 hx (q := 243) rfl (hb hby at_241) rfl ?_
                refine k_lload X104 hx (q := 245) rfl (hb hby at_243) rfl ?_
                refine k_lcmp_ne X104 hx (q1 := 268) (q := 249) (by decide) (by decide) rfl (hb hby at_245) (hb hby at_246) (fun _ => ?_) (fun hc => absurd hc (fun q => hcb (by rw [hm] at q; have := congrArg Int64.toInt q; rw [hlc, hlb] at this; omega)))
                refine k_lload X104 hx (q := 270) rfl (hb hby at_268) rfl ?_
                refine k_lload X104 hx (q := 272) rfl (hb hby at_270) rfl ?_
                refine k_lcmp_ne X104 hx (q1 := 294) (q := 276) (by decide) (by decide) rfl (hb hby at_272) (hb hby at_273) (fun hc => absurd (by rw [hm]; exact Int64.toInt_inj.mp (by rw [hlc, hla, hca])) hc) (fun _ => ?_)
                refine k_lload X104 hx (q := 278) rfl (hb hby at_276) rfl ?_
                refine k_lloadN X104 hx (q := 279) rfl (hb hby at_278) rfl ?_
                refine k_lcmp_ne X104 hx (q1 := 288) (q := 283) (by decide) (by decide) rfl (hb hby at_279) (hb hby at_280) (fun _ => ?_) (fun hc => absurd hc hki)
                refine k_aconst_null X104 hx (q := 289) rfl (hb hby at_288) ?_
                refine k_astore X104 hx (L' := #[.val (.long x0), .second, .val (.long x1), .second, .val (.long x2), .second, .val (.long x3), .second, .val (.int x4), .val (.int x5), .val (.long cn), .second, .val (.int (f1 cn)), .val (.long j), .second, .val (.int (((x5.toUInt32 >>> ((8 : Int32) &&& 31).toUInt32).toInt32) &&& (3 : Int32))), .val (.long k), .second, .val (.ref s1), .val (.ref s2), .val (.ref ds), .val .null, .val (.ref s1), .val .null, .val (.long ((f1 cn) - (1 : Int32)).toInt64), .second, .val (.long (x1 &&& ((f1 cn) - (1 : Int32)).toInt64)), .second, .val (.long (j &&& ((f1 cn) - (1 : Int32)).toInt64)), .second, .val (.long (k &&& ((f1 cn) - (1 : Int32)).toInt64)), .second, .val .null]) (q := 291) rfl (hb hby at_289) rfl rfl ?_
                refine k_goto X104 hx (q := 297) (by decide) (by decide) (hb hby at_291) ?_
                refine k_aload X104 hx (q := 299) rfl (hb hby at_297) rfl rfl ?_
                refine k_ifnonnull_n X104 hx (q := 302) rfl (hb hby at_299) ?_
                refine k_aload X104 hx (q := 304) rfl (hb hby at_302) rfl rfl ?_
                refine k_aload X104 hx (q := 306) rfl (hb hby at_304) rfl rfl ?_
                refine k_acmp_n X104 hx (q := 309) rfl (hb hby at_306) rfl rfl (acmp_ne_f rfl) ?_
                refine k_aload X104 hx (q := 311) rfl (hb hby at_309) rfl rfl ?_
                refine k_aload X104 hx (q := 313) rfl (hb hby at_311) rfl rfl ?_
                refine k_acmp_n X104 hx (q := 316) rfl (hb hby at_313) rfl rfl (acmpV rfl) ?_
                refine k_iconst X104 hx (v := (1 : Int32)) rfl (q := 317) rfl (hb hby at_316) ?_
                refine k_goto X104 hx (q := 321) (by decide) (by decide) (hb hby at_317) ?_
                exact k_retN X104 hx (t := .boolean) hlk (by decide) (by decide) hret (by simp) (hb hby at_321) ⟨rfl, N104⟩
            · rw [show (if (Jvm.OwnK.upd (Jvm.OwnK.upd (fun _ => (0 : Int64)) ta x1) tb j) tc = k then (fun t => if t = tb then Value.ref s2 else (fun t => if t = ta then Value.ref s1 else .null) t) tc else .null) = Value.null from by
                simp only [if_neg hcb, if_neg hca, ite_self]]
              show End _ _ _ _ _ _ _ (T104.setTop (mkF m 212 #[.val (.long x0), .second, .val (.long x1), .second, .val (.long x2), .second, .val (.long x3), .second, .val (.int x4), .val (.int x5), .val (.long cn), .second, .val (.int (f1 cn)), .val (.long j), .second, .val (.int (((x5.toUInt32 >>> ((8 : Int32) &&& 31).toUInt32).toInt32) &&& (3 : Int32))), .val (.long k), .second, .val (.ref s1), .val (.ref s2), .val (.ref ds), .val .null, .val (.ref s1), .unset, .unset, .unset, .unset, .unset, .unset, .unset, .unset, .unset, .unset] [.null]))
              refine k_astore X104 hx (L' := #[.val (.long x0), .second, .val (.long x1), .second, .val (.long x2), .second, .val (.long x3), .second, .val (.int x4), .val (.int x5), .val (.long cn), .second, .val (.int (f1 cn)), .val (.long j), .second, .val (.int (((x5.toUInt32 >>> ((8 : Int32) &&& 31).toUInt32).toInt32) &&& (3 : Int32))), .val (.long k), .second, .val (.ref s1), .val (.ref s2), .val (.ref ds), .val .null, .val (.ref s1), .val .null, .unset, .unset, .unset, .unset, .unset, .unset, .unset, .unset, .unset]) (q := 214) rfl (hb hby at_212) rfl rfl ?_
              refine k_iload X104 hx (q := 216) rfl (hb hby at_214) rfl ?_
              refine k_iconst X104 hx (v := (1 : Int32)) rfl (q := 217) rfl (hb hby at_216) ?_
              refine k_isub X104 hx (q := 218) rfl (hb hby at_217) ?_
              refine k_i2l X104 hx (q := 219) rfl (hb hby at_218) ?_
              refine k_lstore X104 hx (L' := #[.val (.long x0), .second, .val (.long x1), .second, .val (.long x2), .second, .val (.long x3), .second, .val (.int x4), .val (.int x5), .val (.long cn), .second, .val (.int (f1 cn)), .val (.long j), .second, .val (.int (((x5.toUInt32 >>> ((8 : Int32) &&& 31).toUInt32).toInt32) &&& (3 : Int32))), .val (.long k), .second, .val (.ref s1), .val (.ref s2), .val (.ref ds), .val .null, .val (.ref s1), .val .null, .val (.long ((f1 cn) - (1 : Int32)).toInt64), .second, .unset, .unset, .unset, .unset, .unset, .unset, .unset]) (q := 221) rfl (hb hby at_219) rfl ?_
              refine k_lloadN X104 hx (q := 222) rfl (hb hby at_221) rfl ?_
              refine k_lload X104 hx (q := 224) rfl (hb hby at_222) rfl ?_
              refine k_land X104 hx (q := 225) rfl (hb hby at_224) ?_
              refine k_lstore X104 hx (L' := #[.val (.long x0), .second, .val (.long x1), .second, .val (.long x2), .second, .val (.long x3), .second, .val (.int x4), .val (.int x5), .val (.long cn), .second, .val (.int (f1 cn)), .val (.long j), .second, .val (.int (((x5.toUInt32 >>> ((8 : Int32) &&& 31).toUInt32).toInt32) &&& (3 : Int32))), .val (.long k), .second, .val (.ref s1), .val (.ref s2), .val (.ref ds), .val .null, .val (.ref s1), .val .null, .val (.long ((f1 cn) - (1 : Int32)).toInt64), .second, .val (.long (x1 &&& ((f1 cn) - (1 : Int32)).toInt64)), .second, .unset, .unset, .unset, .unset, .unset]) (q := 227) rfl (hb hby at_225) rfl ?_
              refine k_lload X104 hx (q := 229) rfl (hb hby at_227) rfl ?_
              refine k_lload X104 hx (q := 231) rfl (hb hby at_229) rfl ?_
              refine k_land X104 hx (q := 232) rfl (hb hby at_231) ?_
              refine k_lstore X104 hx (L' := #[.val (.long x0), .second, .val (.long x1), .second, .val (.long x2), .second, .val (.long x3), .second, .val (.int x4), .val (.int x5), .val (.long cn), .second, .val (.int (f1 cn)), .val (.long j), .second, .val (.int (((x5.toUInt32 >>> ((8 : Int32) &&& 31).toUInt32).toInt32) &&& (3 : Int32))), .val (.long k), .second, .val (.ref s1), .val (.ref s2), .val (.ref ds), .val .null, .val (.ref s1), .val .null, .val (.long ((f1 cn) - (1 : Int32)).toInt64), .second, .val (.long (x1 &&& ((f1 cn) - (1 : Int32)).toInt64)), .second, .val (.long (j &&& ((f1 cn) - (1 : Int32)).toInt64)), .second, .unset, .unset, .unset]) (q := 234) rfl (hb hby at_232) rfl ?_
              refine k_lload X104 hx (q := 236) rfl (hb hby at_234) rfl ?_
              refine k_lload X104 hx (q := 238) rfl (hb hby at_236) rfl ?_
              refine k_land X104 hx (q := 239) rfl (hb hby at_238) ?_
              refine k_lstore X104 hx (L' := #[.val (.long x0), .second, .val (.long x1), .second, .val (.long x2), .second, .val (.long x3), .second, .val (.int x4), .val (.int x5), .val (.long cn), .second, .val (.int (f1 cn)), .val (.long j), .second, .val (.int (((x5.toUInt32 >>> ((8 : Int32) &&& 31).toUInt32).toInt32) &&& (3 : Int32))), .val (.long k), .second, .val (.ref s1), .val (.ref s2), .val (.ref ds), .val .null, .val (.ref s1), .val .null, .val (.long ((f1 cn) - (1 : Int32)).toInt64), .second, .val (.long (x1 &&& ((f1 cn) - (1 : Int32)).toInt64)), .second, .val (.long (j &&& ((f1 cn) - (1 : Int32)).toInt64)), .second, .val (.long (k &&& ((f1 cn) - (1 : Int32)).toInt64)), .second, .unset]) (q := 241) rfl (hb hby at_239) rfl ?_
              refine k_lload X104 hx (q := 243) rfl (hb hby at_241) rfl ?_
              refine k_lload X104 hx (q := 245) rfl (hb hby at_243) rfl ?_
              refine k_lcmp_ne X104 hx (q1 := 268) (q := 249) (by decide) (by decide) rfl (hb hby at_245) (hb hby at_246) (fun _ => ?_) (fun hc => absurd hc (fun q => hcb (by rw [hm] at q; have := congrArg Int64.toInt q; rw [hlc, hlb] at this; omega)))
              refine k_lload X104 hx (q := 270) rfl (hb hby at_268) rfl ?_
              refine k_lload X104 hx (q := 272) rfl (hb hby at_270) rfl ?_
              refine k_lcmp_ne X104 hx (q1 := 294) (q := 276) (by decide) (by decide) rfl (hb hby at_272) (hb hby at_273) (fun _ => ?_) (fun hc => absurd hc (fun q => hca (by rw [hm] at q; have := congrArg Int64.toInt q; rw [hlc, hla] at this; omega)))
              refine k_aconst_null X104 hx (q := 295) rfl (hb hby at_294) ?_
              refine k_astore X104 hx (L' := #[.val (.long x0), .second, .val (.long x1), .second, .val (.long x2), .second, .val (.long x3), .second, .val (.int x4), .val (.int x5), .val (.long cn), .second, .val (.int (f1 cn)), .val (.long j), .second, .val (.int (((x5.toUInt32 >>> ((8 : Int32) &&& 31).toUInt32).toInt32) &&& (3 : Int32))), .val (.long k), .second, .val (.ref s1), .val (.ref s2), .val (.ref ds), .val .null, .val (.ref s1), .val .null, .val (.long ((f1 cn) - (1 : Int32)).toInt64), .second, .val (.long (x1 &&& ((f1 cn) - (1 : Int32)).toInt64)), .second, .val (.long (j &&& ((f1 cn) - (1 : Int32)).toInt64)), .second, .val (.long (k &&& ((f1 cn) - (1 : Int32)).toInt64)), .second, .val .null]) (q := 297) rfl (hb hby at_295) rfl rfl ?_
              refine k_aload X104 hx (q := 299) rfl (hb hby at_297) rfl rfl ?_
              refine k_ifnonnull_n X104 hx (q := 302) rfl (hb hby at_299) ?_
              refine k_aload X104 hx (q := 304) rfl (hb hby at_302) rfl rfl ?_
              refine k_aload X104 hx (q := 306) rfl (hb hby at_304) rfl rfl ?_
              refine k_acmp_n X104 hx (q := 309) rfl (hb hby at_306) rfl rfl (acmp_ne_f rfl) ?_
              refine k_aload X104 hx (q := 311) rfl (hb hby at_309) rfl rfl ?_
              refine k_aload X104 hx (q := 313) rfl (hb hby at_311) rfl rfl ?_
              refine k_acmp_n X104 hx (q := 316) rfl (hb hby at_313) rfl rfl (acmpV rfl) ?_
              refine k_iconst X104 hx (v := (1 : Int32)) rfl (q := 317) rfl (hb hby at_316) ?_
              refine k_goto X104 hx (q := 321) (by decide) (by decide) (hb hby at_317) ?_
              exact k_retN X104 hx (t := .boolean) hlk (by decide) (by decide) hret (by simp) (hb hby at_321) ⟨rfl, N104⟩
      refine k_if_ne X3 hx (q1 := 81) (q := 75) (by decide) (by decide) rfl (hb hby at_72) (fun hc7 => ?_) (fun hc7 => ?_)
      · refine k_iload X3 hx (q := 83) rfl (hb hby at_81) rfl ?_
        refine k_iconst X3 hx (v := (1 : Int32)) rfl (q := 84) rfl (hb hby at_83) ?_
        refine k_icmp_ne X3 hx (q1 := 94) (q := 87) (by decide) (by decide) rfl (hb hby at_84) (fun hc8 => ?_) (fun hc8 => ?_)
        · refine k_iload X3 hx (q := 96) rfl (hb hby at_94) rfl ?_
          refine k_iconst X3 hx (v := (2 : Int32)) rfl (q := 97) rfl (hb hby at_96) ?_
          refine k_icmp_ne X3 hx (q1 := 112) (q := 100) (by decide) (by decide) rfl (hb hby at_97) (fun hc9 => ?_) (fun hc9 => ?_)
          · refine k_lload X3 hx (q := 114) rfl (hb hby at_112) rfl ?_
            refine k_lstore X3 hx (L' := #[.val (.long x0), .second, .val (.long x1), .second, .val (.long x2), .second, .val (.long x3), .second, .val (.int x4), .val (.int x5), .val (.long cn), .second, .val (.int (f1 cn)), .val (.long j), .second, .val (.int (((x5.toUInt32 >>> ((8 : Int32) &&& 31).toUInt32).toInt32) &&& (3 : Int32))), .val (.long x3), .second, .unset, .unset, .unset, .unset, .unset, .unset, .unset, .unset, .unset, .unset, .unset, .unset, .unset, .unset, .unset]) (q := 116) rfl (hb hby at_114) rfl ?_
            exact J6 _
          · refine k_lloadN X3 hx (q := 101) rfl (hb hby at_100) rfl ?_
            refine k_lload X3 hx (q := 103) rfl (hb hby at_101) rfl ?_
            refine k_bipush X3 hx (v := (16 : Int32)) rfl (q := 105) rfl (hb hby at_103) ?_
            refine k_lshl X3 hx (q := 106) rfl (hb hby at_105) ?_
            refine k_ladd X3 hx (q := 107) rfl (hb hby at_106) ?_
            refine k_lstore X3 hx (L' := #[.val (.long x0), .second, .val (.long x1), .second, .val (.long x2), .second, .val (.long x3), .second, .val (.int x4), .val (.int x5), .val (.long cn), .second, .val (.int (f1 cn)), .val (.long j), .second, .val (.int (((x5.toUInt32 >>> ((8 : Int32) &&& 31).toUInt32).toInt32) &&& (3 : Int32))), .val (.long (x1 + (x3 <<< ((16 : Int32) &&& 0x3f).toInt64))), .second, .unset, .unset, .unset, .unset, .unset, .unset, .unset, .unset, .unset, .unset, .unset, .unset, .unset, .unset, .unset]) (q := 109) rfl (hb hby at_107) rfl ?_
            refine k_goto X3 hx (q := 116) (by decide) (by decide) (hb hby at_109) ?_
            exact J6 _
        · refine k_lload X3 hx (q := 89) rfl (hb hby at_87) rfl ?_
          refine k_lstore X3 hx (L' := #[.val (.long x0), .second, .val (.long x1), .second, .val (.long x2), .second, .val (.long x3), .second, .val (.int x4), .val (.int x5), .val (.long cn), .second, .val (.int (f1 cn)), .val (.long j), .second, .val (.int (((x5.toUInt32 >>> ((8 : Int32) &&& 31).toUInt32).toInt32) &&& (3 : Int32))), .val (.long j), .second, .unset, .unset, .unset, .unset, .unset, .unset, .unset, .unset, .unset, .unset, .unset, .unset, .unset, .unset, .unset]) (q := 91) rfl (hb hby at_89) rfl ?_
          refine k_goto X3 hx (q := 116) (by decide) (by decide) (hb hby at_91) ?_
          exact J6 _
      · refine k_lloadN X3 hx (q := 76) rfl (hb hby at_75) rfl ?_
        refine k_lstore X3 hx (L' := #[.val (.long x0), .second, .val (.long x1), .second, .val (.long x2), .second, .val (.long x3), .second, .val (.int x4), .val (.int x5), .val (.long cn), .second, .val (.int (f1 cn)), .val (.long j), .second, .val (.int (((x5.toUInt32 >>> ((8 : Int32) &&& 31).toUInt32).toInt32) &&& (3 : Int32))), .val (.long x1), .second, .unset, .unset, .unset, .unset, .unset, .unset, .unset, .unset, .unset, .unset, .unset, .unset, .unset, .unset, .unset]) (q := 78) rfl (hb hby at_76) rfl ?_
        refine k_goto X3 hx (q := 116) (by decide) (by decide) (hb hby at_78) ?_
        exact J6 _
    refine k_if_ne X3 hx (q1 := 52) (q := 47) (by decide) (by decide) rfl (hb hby at_44) (fun hc5 => ?_) (fun hc5 => ?_)
    · refine k_lloadN X3 hx (q := 53) rfl (hb hby at_52) rfl ?_
      refine k_lload X3 hx (q := 55) rfl (hb hby at_53) rfl ?_
      refine k_bipush X3 hx (v := (16 : Int32)) rfl (q := 57) rfl (hb hby at_55) ?_
      refine k_lshl X3 hx (q := 58) rfl (hb hby at_57) ?_
      refine k_ladd X3 hx (q := 59) rfl (hb hby at_58) ?_
      exact J4 _
    · refine k_lload X3 hx (q := 49) rfl (hb hby at_47) rfl ?_
      refine k_goto X3 hx (q := 59) (by decide) (by decide) (hb hby at_49) ?_
      exact J4 _
  refine k_iload X0 hx (q := 2) rfl (hb hby at_0) rfl ?_
  refine k_bipush X0 hx (v := (10 : Int32)) rfl (q := 4) rfl (hb hby at_2) ?_
  refine k_iushr X0 hx (q := 5) rfl (hb hby at_4) ?_
  refine k_iconst X0 hx (v := (1 : Int32)) rfl (q := 6) rfl (hb hby at_5) ?_
  refine k_iand X0 hx (q := 7) rfl (hb hby at_6) ?_
  refine k_if_ne X0 hx (q1 := 27) (q := 10) (by decide) (by decide) rfl (hb hby at_7) (fun hc2 => ?_) (fun hc2 => ?_)
  · refine k_lloadN X0 hx (q := 28) rfl (hb hby at_27) rfl ?_
    exact J1 _
  · refine k_lloadN X0 hx (q := 11) rfl (hb hby at_10) rfl ?_
    refine k_ldc2J X0 hx hZ (v := (131071 : Int64)) hown (hw _ (List.mem_of_getElem? (i := 0) rfl)) (q := 14) rfl (hb hby at_11) ?_
    refine k_land X0 hx (q := 15) rfl (hb hby at_14) ?_
    refine k_iload X0 hx (q := 17) rfl (hb hby at_15) rfl ?_
    refine k_bipush X0 hx (v := (11 : Int32)) rfl (q := 19) rfl (hb hby at_17) ?_
    refine k_iushr X0 hx (q := 20) rfl (hb hby at_19) ?_
    refine k_bipush X0 hx (v := (15 : Int32)) rfl (q := 22) rfl (hb hby at_20) ?_
    refine k_iand X0 hx (q := 23) rfl (hb hby at_22) ?_
    refine k_lushr X0 hx (q := 24) rfl (hb hby at_23) ?_
    refine k_goto X0 hx (q := 28) (by decide) (by decide) (hb hby at_24) ?_
    exact J1 _
set_option maxRecDepth 65536 in
set_option maxHeartbeats 40000000 in
theorem comes_1 {Post : Tables → Env → Array Value → State → Outcome → State → Prop} (hpost : ∀ tb e args s v u, (limb_1_1.after args s (.returned v) u = true ∧ limb_1_2.after args s (.returned v) u = true ∧ True) → FrameEnd s (.returned v) u (Jvm.fieldLocs frame_1_writes args s ++ Jvm.arrayLocs frame_1_arrays args s ++ Jvm.staticLocs frame_1_statics s) 32 157312 → Post tb e args s (.returned v) u) :
    ArmFor flags0 classFile x code maxLocals ret World_1 tables_1 room_1 Calls_1 rest_1 Pre_1 Post := by
  intro l hfl _ _ p e ha hc hk s m args below hf hA hF happ hP
  obtain ⟨hcalls, hrest, hpre⟩ := hP
  obtain ⟨-, -, -, hnamed, -, -, -, hat⟩ := (Spec.applies_iff hf).mp happ
  obtain ⟨hg, hn⟩ := and_e (Cond.before_iff.mp (show (Jvm.Cond.and given_1 narrow_1).before args s = true from hpre))
  obtain ⟨gc, g0⟩ := and_e hg
  obtain ⟨a0, g1⟩ := and_e g0
  obtain ⟨a1, g2⟩ := and_e g1
  obtain ⟨a2, g3⟩ := and_e g2
  obtain ⟨a3, g4⟩ := and_e g3
  obtain ⟨a4, g5⟩ := and_e g4
  obtain ⟨w0, w1, w2, w3, w4, w5, rfl⟩ : ∃ w0 w1 w2 w3 w4 w5 : Value, args = #[w0, w1, w2, w3, w4, w5] := by
    have hs : args.size = 6 := by simpa [Cond.value, given_1] using gc
    obtain ⟨L⟩ := args
    match L, hs with
    | [w0, w1, w2, w3, w4, w5], _ => exact ⟨w0, w1, w2, w3, w4, w5, rfl⟩
  have hw := fun d (hd : d ∈ tables_1) => atoms_spec (ws := Jvm.Cond.code x code maxLocals ret :: tables_1) hat d (List.mem_cons_of_mem _ hd)
  have hfit : Fit s := fun {y c} hc i hi => by
    obtain ⟨ha, rfl⟩ := Array.getElem?_eq_some_iff.mp hc
    have q := List.all_eq_true.mp ((Array.all_eq_true_iff_forall_mem.mp hF) _ (Array.getElem_mem ha)) i (List.mem_range.mpr hi)
    simpa [Array.getElem?_eq_getElem hi] using q
  obtain ⟨i0, ei0⟩ := isL_v a0
  obtain rfl : w0 = (.long i0) := Option.some.inj ei0
  obtain ⟨i1, ei1⟩ := isL_v a1
  obtain rfl : w1 = (.long i1) := Option.some.inj ei1
  obtain ⟨i2, ei2⟩ := isL_v a2
  obtain rfl : w2 = (.long i2) := Option.some.inj ei2
  obtain ⟨i3, ei3⟩ := isL_v a3
  obtain rfl : w3 = (.long i3) := Option.some.inj ei3
  obtain ⟨i4, ei4⟩ := is_v a4
  obtain rfl : w4 = (.int i4) := Option.some.inj ei4
  obtain ⟨i5, ei5⟩ := is_v g5
  obtain rfl : w5 = (.int i5) := Option.some.inj ei5
  obtain ⟨hsets, -⟩ := atoms_of _ (rest_1_c_eq ▸ (show rest_1_c.before _ s = true from hrest))
  obtain ⟨cs, ecs⟩ := is_v (Cond.before_iff.mp (hsets _ (List.mem_of_getElem? (i := 1) rfl)))
  have hS : Sta s s.heap "java/lang/String" "COMPACT_STRINGS" "Z" (.int cs) := Sta.start ecs (Or.inl (hsets _ (List.mem_of_getElem? (i := 0) rfl)))
  have n5 := not_v (Cond.before_iff.mp (hsets _ (List.mem_of_getElem? (i := 2) rfl)))
  have hcs : ¬ (cs = (0 : Int32)) := gotF (Cond.eq_ints ecs (Term.int_eval (0))) n5
  obtain ⟨n, o, h1, h2, h3, _, L, rfl, ⟨rfl, N⟩, hq⟩ := rmL l s _ hw i0 i1 i2 i3 i4 i5 s.heap s.heap.size (Nat.le_refl _) (Old.start s) cs hcs hS p e ha hc hk s m _ below hf ((Spec.applies_iff_loose hf).mp happ).1 ⟨rfl, State.Warmed39.refl s, rfl⟩ trivial
  refine ⟨n, _, h1, h2, h3, hpost _ _ _ _ _ _ ⟨Cond.after_iff.mpr rfl, Cond.after_iff.mpr (eq_i res_at (Term.int_eval (1)) rfl), trivial⟩ ⟨hq.1, hq.2.1, (hq.2.2.sift fun y hy => Or.inr (N y hy)).mono (by decide) (by decide)⟩⟩
theorem main_1_1 : Claimed_1_1 := comes_1 fun _ _ _ _ _ _ h hF => ⟨h.1, hF⟩
theorem main_1_2 : Claimed_1_2 := comes_1 fun _ _ _ _ _ _ h hF => ⟨h.2.1, hF⟩
end Jvm.Pilot.@@N@@
namespace Jvm.Pilot.@@N@@
open Jvm Jvm.ClassFile Sem Op Lib Jvm.Free Jvm.Stand Jvm.Pilot.@@N@@.Jvm.D
/-! MADE BY PROGRAM (witnessworld.py) out of the Statement's table words and the real class files: 23 classes; the members and pool entries that the words name. The judged class is class 1, her method 2. -/
namespace start1
open Jvm.ClassFile
def u (s : String) : CpInfo := .utf8 (stringToUtf16 s)
/-- a pool by its gaps: so many unusable entries, then the entry; so many at the end -/
def gap : Nat → List CpInfo → List CpInfo
  | 0, r => r
  | n + 1, r => .unusable :: gap n r
def poolList (es : List (Nat × CpInfo)) (last : Nat) : List CpInfo := es.foldr (fun e r => gap e.1 (e.2 :: r)) (gap last [])
def pool (es : List (Nat × CpInfo)) (last : Nat) : Array CpInfo := ⟨poolList es last⟩
def fileOf (pool : Array CpInfo) (this : Nat) (attrs : Array Attribute := #[]) (ms : Array MethodInfo := #[]) (fl : Nat := 33) (sup : Nat := 0) (ifs : Array Nat := #[]) (fds : Array FieldInfo := #[]) : ClassFile where
  minorVersion := 0
  majorVersion := 65
  constantPool := pool
  accessFlags := fl
  thisClass := this
  superClass := sup
  interfaces := ifs
  fields := fds
  methods := ms
  attributes := attrs
def plain (name : String) (sup : Option ClassId) : Class where
  name := name
  kind := .ordinary
  loader := none
  accessFlags := 33
  super := sup
  interfaces := #[]
  cf := none
  fields := #[]
  methods := #[]
  instanceTypes := #[]
  staticTypes := #[]
  resolved := #[]
  callSites := []
  init := .initialized
  statics := none
  mirror := none

def pool0 : Array CpInfo := pool [(5, u "<init>"), (0, u "()V"), (1, .class_ 10), (1, u "java/lang/Object")] 113

def k0c0 : Code := { maxStack := 0, maxLocals := 1, code := object_method_1_code, exceptionTable := #[], attributes := #[] }
def k0m0 : Method := { name := "<init>", desc := "()V", sig := { parameters := [], returnType := none }, accessFlags := 1, code := some k0c0 }
/-- java/lang/Object -/
def k0 : Class := { plain "java/lang/Object" none with
  accessFlags := 33
  interfaces := #[]
  cf := some (fileOf pool0 8 #[] #[{ accessFlags := 1, nameIndex := 5, descriptorIndex := 6, attributes := #[] }] 33 0 #[] #[])
  fields := #[]
  methods := #[k0m0]
  instanceTypes := #[]
  staticTypes := #[]
  resolved := Array.replicate 124 none
  statics := none }

def pool1 : Array CpInfo := pool [(2, .class_ 4), (1, u "java/lang/Object"), (0, u "<init>"), (0, u "()V"), (0, .long 2), (1, .long 4), (1, .long 8), (1, .long 16), (1, .long 32), (1, .long 64), (1, .long 128), (1, .long 256), (1, .long 512), (1, .long 1024), (1, .long 2048), (1, .long 4096), (1, .long 8192), (1, .long 16384), (1, .long 32768), (1, .integer 32768), (0, .integer 65536), (0, .long 131071), (1, .methodref 42 43), (0, .class_ 44), (0, .nameAndType 45 46), (0, u "com/example/bones_of_bytecode/bonesofbytecode/DecodedStringsGetPinLaw"), (0, u "slotsFor"), (0, u "(J)I"), (0, .class_ 48), (0, u "java/lang/String"), (0, .methodref 47 50), (0, .nameAndType 5 51), (0, u "([C)V"), (0, .class_ 53), (0, u "com/example/bones_of_bytecode/bonesofbytecode/DecodedStrings"), (0, .methodref 52 55), (0, .nameAndType 5 56), (0, u "(J)V"), (0, .methodref 52 58), (0, .nameAndType 59 60), (0, u "get"), (0, u "(J)Ljava/lang/String;"), (0, .methodref 52 62), (0, .nameAndType 63 64), (0, u "keep"), (0, u "(JLjava/lang/String;)V"), (3, u "law"), (0, u "(JJJJII)Z")] 2

def k1m0 : Method := { name := "<init>", desc := "()V", sig := { parameters := [], returnType := none }, accessFlags := 1, code := none }
def k1c1 : Code := { maxStack := 4, maxLocals := 2, code := method_2_code, exceptionTable := #[], attributes := #[] }
def k1m1 : Method := { name := "slotsFor", desc := "(J)I", sig := { parameters := [.long], returnType := some .int }, accessFlags := 10, code := some k1c1 }
def k1c2 : Code := { maxStack := 7, maxLocals := 33, code := code, exceptionTable := #[], attributes := #[] }
def k1m2 : Method := { name := "law", desc := "(JJJJII)Z", sig := { parameters := [.long, .long, .long, .long, .int, .int], returnType := some .boolean }, accessFlags := 9, code := some k1c2 }
/-- com/example/bones_of_bytecode/bonesofbytecode/DecodedStringsGetPinLaw -/
def k1 : Class := { plain "com/example/bones_of_bytecode/bonesofbytecode/DecodedStringsGetPinLaw" (some 0) with
  accessFlags := 49
  interfaces := #[]
  cf := some (fileOf pool1 42 #[] #[{ accessFlags := 1, nameIndex := 5, descriptorIndex := 6, attributes := #[] }, { accessFlags := 10, nameIndex := 45, descriptorIndex := 46, attributes := #[] }, { accessFlags := 9, nameIndex := 68, descriptorIndex := 69, attributes := #[] }] 49 2 #[] #[])
  fields := #[]
  methods := #[k1m0, k1m1, k1m2]
  instanceTypes := #[]
  staticTypes := #[]
  resolved := Array.replicate 72 none
  statics := none }

def pool2 : Array CpInfo := pool [(1, .class_ 2), (0, u "java/io/Serializable"), (0, .class_ 4), (0, u "java/lang/Object")] 2

/-- java/io/Serializable -/
def k2 : Class := { plain "java/io/Serializable" (some 0) with
  accessFlags := 1537
  interfaces := #[]
  cf := some (fileOf pool2 1 #[] #[] 1537 3 #[] #[])
  fields := #[]
  methods := #[]
  instanceTypes := #[]
  staticTypes := #[]
  resolved := Array.replicate 7 none
  statics := none }

def pool3 : Array CpInfo := pool [(1, .class_ 2), (0, u "java/lang/Comparable"), (0, .class_ 4), (0, u "java/lang/Object")] 7

/-- java/lang/Comparable -/
def k3 : Class := { plain "java/lang/Comparable" (some 0) with
  accessFlags := 1537
  interfaces := #[]
  cf := some (fileOf pool3 1 #[] #[] 1537 3 #[] #[])
  fields := #[]
  methods := #[]
  instanceTypes := #[]
  staticTypes := #[]
  resolved := Array.replicate 12 none
  statics := none }

def pool4 : Array CpInfo := pool [(2, .class_ 4), (1, u "java/lang/CharSequence"), (42, .class_ 48), (0, u "java/lang/CharSequence$1CodePointIterator"), (10, .class_ 60), (0, u "java/lang/CharSequence$1CharIterator"), (5, .class_ 67), (0, u "java/lang/Object")] 63

/-- java/lang/CharSequence -/
def k4 : Class := { plain "java/lang/CharSequence" (some 0) with
  accessFlags := 1537
  interfaces := #[]
  cf := some (fileOf pool4 2 #[.nestMembers #[47, 59]] #[] 1537 66 #[] #[])
  fields := #[]
  methods := #[]
  instanceTypes := #[]
  staticTypes := #[]
  resolved := Array.replicate 131 none
  statics := none }

def pool5 : Array CpInfo := pool [(1, .class_ 2), (0, u "java/lang/constant/Constable"), (0, .class_ 4), (0, u "java/lang/Object")] 6

/-- java/lang/constant/Constable -/
def k5 : Class := { plain "java/lang/constant/Constable" (some 0) with
  accessFlags := 1537
  interfaces := #[]
  cf := some (fileOf pool5 1 #[] #[] 1537 3 #[] #[])
  fields := #[]
  methods := #[]
  instanceTypes := #[]
  staticTypes := #[]
  resolved := Array.replicate 11 none
  statics := none }

def pool6 : Array CpInfo := pool [(1, .class_ 2), (0, u "java/lang/constant/ConstantDesc"), (0, .class_ 4), (0, u "java/lang/Object")] 32

/-- java/lang/constant/ConstantDesc -/
def k6 : Class := { plain "java/lang/constant/ConstantDesc" (some 0) with
  accessFlags := 1537
  interfaces := #[]
  cf := some (fileOf pool6 1 #[] #[] 1537 3 #[] #[])
  fields := #[]
  methods := #[]
  instanceTypes := #[]
  staticTypes := #[]
  resolved := Array.replicate 37 none
  statics := none }

def pool7 : Array CpInfo := pool [(1, .methodref 2 3), (0, .class_ 4), (0, .nameAndType 5 6), (0, u "java/lang/Object"), (0, u "<init>"), (0, u "()V"), (2, .fieldref 10 11), (0, .class_ 12), (0, .nameAndType 13 14), (0, u "java/lang/String"), (0, u "value"), (0, u "[B"), (0, .fieldref 10 16), (0, .nameAndType 17 18), (0, u "coder"), (0, u "B"), (2, u "hash"), (0, u "I"), (2, u "hashIsZero"), (0, u "Z"), (0, .methodref 10 28), (0, .nameAndType 5 29), (0, u "([CIILjava/lang/Void;)V"), (8, .fieldref 10 39), (0, .nameAndType 40 26), (0, u "COMPACT_STRINGS"), (1, .class_ 44), (1, u "java/lang/StringUTF16"), (0, u "compress"), (1, .methodref 42 48), (0, .nameAndType 49 50), (0, u "coderFromArrayLen"), (0, u "([BI)B"), (126, .methodref 42 178), (0, .nameAndType 45 179), (0, u "([CII)[B"), (154, u "()I"), (0, .methodref 10 336), (0, .nameAndType 17 337), (0, u "()B"), (169, u "length"), (67, .class_ 576), (0, u "java/lang/CharSequence"), (22, u "CASE_INSENSITIVE_ORDER"), (0, u "Ljava/util/Comparator;"), (409, u "([C)V"), (90, u "serialPersistentFields"), (0, u "[Ljava/io/ObjectStreamField;"), (0, .class_ 1104), (0, u "java/lang/String$CaseInsensitiveComparator"), (1, .class_ 1107), (0, u "java/io/Serializable"), (0, .class_ 1109), (0, u "java/lang/Comparable"), (0, .class_ 1111), (0, u "java/lang/constant/Constable"), (0, .class_ 1113), (0, u "java/lang/constant/ConstantDesc"), (2, u "serialVersionUID"), (0, u "J"), (3, u "REPL"), (0, u "C"), (2, u "LATIN1"), (1, u "UTF16")] 323

def k7m0 : Method := { name := "<init>", desc := "()V", sig := { parameters := [], returnType := none }, accessFlags := 1, code := none }
def k7c1 : Code := { maxStack := 5, maxLocals := 2, code := jdk_42_method_3_code, exceptionTable := #[], attributes := #[] }
def k7m1 : Method := { name := "<init>", desc := "([C)V", sig := { parameters := [(.array .char)], returnType := none }, accessFlags := 1, code := some k7c1 }
def k7c2 : Code := { maxStack := 2, maxLocals := 1, code := jdk_42_method_54_code, exceptionTable := #[], attributes := #[] }
def k7m2 : Method := { name := "length", desc := "()I", sig := { parameters := [], returnType := some .int }, accessFlags := 1, code := some k7c2 }
def k7c3 : Code := { maxStack := 4, maxLocals := 6, code := jdk_42_method_149_code, exceptionTable := #[], attributes := #[] }
def k7m3 : Method := { name := "<init>", desc := "([CIILjava/lang/Void;)V", sig := { parameters := [(.array .char), .int, .int, (.object "java/lang/Void")], returnType := none }, accessFlags := 2, code := some k7c3 }
def k7c4 : Code := { maxStack := 1, maxLocals := 1, code := jdk_42_method_152_code, exceptionTable := #[], attributes := #[] }
def k7m4 : Method := { name := "coder", desc := "()B", sig := { parameters := [], returnType := some .byte }, accessFlags := 0, code := some k7c4 }
/-- java/lang/String -/
def k7 : Class := { plain "java/lang/String" (some 0) with
  accessFlags := 49
  interfaces := #[2, 3, 4, 5, 6]
  cf := some (fileOf pool7 10 #[.nestMembers #[1103]] #[{ accessFlags := 1, nameIndex := 5, descriptorIndex := 6, attributes := #[] }, { accessFlags := 1, nameIndex := 5, descriptorIndex := 1010, attributes := #[] }, { accessFlags := 1, nameIndex := 507, descriptorIndex := 334, attributes := #[] }, { accessFlags := 2, nameIndex := 5, descriptorIndex := 29, attributes := #[] }, { accessFlags := 0, nameIndex := 17, descriptorIndex := 337, attributes := #[] }] 49 2 #[1106, 1108, 575, 1110, 1112] #[{ accessFlags := 18, nameIndex := 13, descriptorIndex := 14, attributes := #[] }, { accessFlags := 18, nameIndex := 17, descriptorIndex := 18, attributes := #[] }, { accessFlags := 2, nameIndex := 21, descriptorIndex := 22, attributes := #[] }, { accessFlags := 2, nameIndex := 25, descriptorIndex := 26, attributes := #[] }, { accessFlags := 26, nameIndex := 1116, descriptorIndex := 1117, attributes := #[] }, { accessFlags := 24, nameIndex := 40, descriptorIndex := 26, attributes := #[] }, { accessFlags := 26, nameIndex := 1101, descriptorIndex := 1102, attributes := #[] }, { accessFlags := 26, nameIndex := 1121, descriptorIndex := 1122, attributes := #[] }, { accessFlags := 25, nameIndex := 599, descriptorIndex := 600, attributes := #[] }, { accessFlags := 24, nameIndex := 1125, descriptorIndex := 18, attributes := #[] }, { accessFlags := 24, nameIndex := 1127, descriptorIndex := 18, attributes := #[] }])
  fields := #[{ name := "value", type := (.array .byte), accessFlags := 18, slot := 0, constantValue := 0 }, { name := "coder", type := .byte, accessFlags := 18, slot := 1, constantValue := 0 }, { name := "hash", type := .int, accessFlags := 2, slot := 2, constantValue := 0 }, { name := "hashIsZero", type := .boolean, accessFlags := 2, slot := 3, constantValue := 0 }, { name := "serialVersionUID", type := .long, accessFlags := 26, slot := 0, constantValue := 0 }, { name := "COMPACT_STRINGS", type := .boolean, accessFlags := 24, slot := 1, constantValue := 0 }, { name := "serialPersistentFields", type := (.array (.object "java/io/ObjectStreamField")), accessFlags := 26, slot := 2, constantValue := 0 }, { name := "REPL", type := .char, accessFlags := 26, slot := 3, constantValue := 0 }, { name := "CASE_INSENSITIVE_ORDER", type := (.object "java/util/Comparator"), accessFlags := 25, slot := 4, constantValue := 0 }, { name := "LATIN1", type := .byte, accessFlags := 24, slot := 5, constantValue := 0 }, { name := "UTF16", type := .byte, accessFlags := 24, slot := 6, constantValue := 0 }]
  methods := #[k7m0, k7m1, k7m2, k7m3, k7m4]
  instanceTypes := #[(.array .byte), .byte, .int, .boolean]
  staticTypes := #[.long, .boolean, (.array (.object "java/io/ObjectStreamField")), .char, (.object "java/util/Comparator"), .byte, .byte]
  resolved := Array.replicate 1451 none
  statics := some 0 }

def pool8 : Array CpInfo := pool [(6, .class_ 8), (1, u "java/lang/Object"), (0, u "<init>"), (0, u "()V"), (1, .class_ 14), (1, u "java/lang/StringUTF16"), (31, u "$assertionsDisabled"), (0, u "Z"), (13, u "HI_BYTE_SHIFT"), (0, u "I"), (2, u "LO_BYTE_SHIFT"), (49, .methodref 12 116), (0, .nameAndType 117 118), (0, u "compress"), (0, u "([CI[BII)I"), (3, u "([CII)[B"), (138, u "coderFromArrayLen"), (0, u "([BI)B"), (106, .class_ 371), (1, u "java/lang/StringUTF16$LinesSpliterator"), (58, u "MAX_LENGTH"), (196, .class_ 628), (0, u "java/lang/StringUTF16$CodePointsSpliterator"), (0, .class_ 630), (0, u "java/lang/StringUTF16$CharsSpliterator")] 4

def k8m0 : Method := { name := "<init>", desc := "()V", sig := { parameters := [], returnType := none }, accessFlags := 0, code := none }
def k8c1 : Code := { maxStack := 2, maxLocals := 2, code := jdk_52_method_15_code, exceptionTable := #[], attributes := #[] }
def k8m1 : Method := { name := "coderFromArrayLen", desc := "([BI)B", sig := { parameters := [(.array .byte), .int], returnType := some .byte }, accessFlags := 8, code := some k8c1 }
def k8c2 : Code := { maxStack := 5, maxLocals := 6, code := jdk_52_method_16_code, exceptionTable := #[], attributes := #[] }
def k8m2 : Method := { name := "compress", desc := "([CII)[B", sig := { parameters := [(.array .char), .int, .int], returnType := some (.array .byte) }, accessFlags := 9, code := some k8c2 }
def k8c3 : Code := { maxStack := 3, maxLocals := 7, code := jdk_52_method_21_code, exceptionTable := #[], attributes := #[] }
def k8m3 : Method := { name := "compress", desc := "([CI[BII)I", sig := { parameters := [(.array .char), .int, (.array .byte), .int, .int], returnType := some .int }, accessFlags := 9, code := some k8c3 }
/-- java/lang/StringUTF16 -/
def k8 : Class := { plain "java/lang/StringUTF16" (some 0) with
  accessFlags := 48
  interfaces := #[]
  cf := some (fileOf pool8 12 #[.nestMembers #[627, 629, 369]] #[{ accessFlags := 0, nameIndex := 9, descriptorIndex := 10, attributes := #[] }, { accessFlags := 8, nameIndex := 261, descriptorIndex := 262, attributes := #[] }, { accessFlags := 9, nameIndex := 117, descriptorIndex := 122, attributes := #[] }, { accessFlags := 9, nameIndex := 117, descriptorIndex := 118, attributes := #[] }] 48 6 #[] #[{ accessFlags := 26, nameIndex := 61, descriptorIndex := 62, attributes := #[] }, { accessFlags := 26, nameIndex := 65, descriptorIndex := 62, attributes := #[] }, { accessFlags := 24, nameIndex := 430, descriptorIndex := 62, attributes := #[] }, { accessFlags := 4120, nameIndex := 46, descriptorIndex := 47, attributes := #[] }])
  fields := #[{ name := "HI_BYTE_SHIFT", type := .int, accessFlags := 26, slot := 0, constantValue := 0 }, { name := "LO_BYTE_SHIFT", type := .int, accessFlags := 26, slot := 1, constantValue := 0 }, { name := "MAX_LENGTH", type := .int, accessFlags := 24, slot := 2, constantValue := 0 }, { name := "$assertionsDisabled", type := .boolean, accessFlags := 4120, slot := 3, constantValue := 0 }]
  methods := #[k8m0, k8m1, k8m2, k8m3]
  instanceTypes := #[]
  staticTypes := #[.int, .int, .int, .boolean]
  resolved := Array.replicate 635 none
  statics := none }

def pool9 : Array CpInfo := pool [(1, .methodref 2 3), (0, .class_ 4), (0, .nameAndType 5 6), (0, u "java/lang/Object"), (0, u "<init>"), (0, u "()V"), (0, .class_ 8), (0, u "com/example/bones_of_bytecode/bonesofbytecode/DecodedStrings"), (0, .integer 65536), (0, .class_ 11), (0, u "java/lang/String"), (0, .fieldref 7 13), (0, .nameAndType 14 15), (0, u "kept"), (0, u "[Ljava/lang/String;"), (0, .fieldref 7 17), (0, .nameAndType 18 19), (0, u "indices"), (0, u "[J"), (0, .fieldref 7 21), (0, .nameAndType 22 23), (0, u "units"), (0, u "J"), (0, .methodref 10 25), (0, .nameAndType 26 27), (0, u "length"), (0, u "()I"), (0, .long 2097152), (1, u "SLOTS"), (0, u "I"), (1, u "LONGEST"), (1, u "UNITS"), (1, u "(J)V"), (3, u "get"), (0, u "(J)Ljava/lang/String;"), (0, u "keep"), (0, u "(JLjava/lang/String;)V")] 2

def k9c0 : Code := { maxStack := 4, maxLocals := 4, code := prog_26_method_1_code, exceptionTable := #[], attributes := #[] }
def k9m0 : Method := { name := "<init>", desc := "(J)V", sig := { parameters := [.long], returnType := none }, accessFlags := 0, code := some k9c0 }
def k9c1 : Code := { maxStack := 4, maxLocals := 4, code := prog_26_method_2_code, exceptionTable := #[], attributes := #[] }
def k9m1 : Method := { name := "get", desc := "(J)Ljava/lang/String;", sig := { parameters := [.long], returnType := some (.object "java/lang/String") }, accessFlags := 0, code := some k9c1 }
def k9c2 : Code := { maxStack := 4, maxLocals := 8, code := prog_26_method_3_code, exceptionTable := #[], attributes := #[] }
def k9m2 : Method := { name := "keep", desc := "(JLjava/lang/String;)V", sig := { parameters := [.long, (.object "java/lang/String")], returnType := none }, accessFlags := 0, code := some k9c2 }
/-- com/example/bones_of_bytecode/bonesofbytecode/DecodedStrings -/
def k9 : Class := { plain "com/example/bones_of_bytecode/bonesofbytecode/DecodedStrings" (some 0) with
  accessFlags := 48
  interfaces := #[]
  cf := some (fileOf pool9 7 #[] #[{ accessFlags := 0, nameIndex := 5, descriptorIndex := 37, attributes := #[] }, { accessFlags := 0, nameIndex := 41, descriptorIndex := 42, attributes := #[] }, { accessFlags := 0, nameIndex := 43, descriptorIndex := 44, attributes := #[] }] 48 2 #[] #[{ accessFlags := 24, nameIndex := 30, descriptorIndex := 31, attributes := #[] }, { accessFlags := 24, nameIndex := 33, descriptorIndex := 31, attributes := #[] }, { accessFlags := 24, nameIndex := 35, descriptorIndex := 31, attributes := #[] }, { accessFlags := 18, nameIndex := 14, descriptorIndex := 15, attributes := #[] }, { accessFlags := 18, nameIndex := 18, descriptorIndex := 19, attributes := #[] }, { accessFlags := 2, nameIndex := 22, descriptorIndex := 23, attributes := #[] }])
  fields := #[{ name := "SLOTS", type := .int, accessFlags := 24, slot := 0, constantValue := 0 }, { name := "LONGEST", type := .int, accessFlags := 24, slot := 1, constantValue := 0 }, { name := "UNITS", type := .int, accessFlags := 24, slot := 2, constantValue := 0 }, { name := "kept", type := (.array (.object "java/lang/String")), accessFlags := 18, slot := 0, constantValue := 0 }, { name := "indices", type := (.array .long), accessFlags := 18, slot := 1, constantValue := 0 }, { name := "units", type := .long, accessFlags := 2, slot := 2, constantValue := 0 }]
  methods := #[k9m0, k9m1, k9m2]
  instanceTypes := #[(.array (.object "java/lang/String")), (.array .long), .long]
  staticTypes := #[.int, .int, .int]
  resolved := Array.replicate 47 none
  statics := none }

def pool10 : Array CpInfo := pool [(4, .class_ 6), (1, u "java/lang/Object"), (0, u "<init>"), (0, u "()V"), (5, .class_ 16), (1, u "java/lang/StringLatin1"), (104, u "$assertionsDisabled"), (0, u "Z"), (98, .class_ 223), (1, u "java/lang/StringLatin1$LinesSpliterator"), (166, .class_ 391), (0, u "java/lang/StringLatin1$CharsSpliterator")] 3

def k10m0 : Method := { name := "<init>", desc := "()V", sig := { parameters := [], returnType := none }, accessFlags := 0, code := none }
/-- java/lang/StringLatin1 -/
def k10 : Class := { plain "java/lang/StringLatin1" (some 0) with
  accessFlags := 48
  interfaces := #[]
  cf := some (fileOf pool10 14 #[.nestMembers #[390, 221]] #[{ accessFlags := 0, nameIndex := 7, descriptorIndex := 8, attributes := #[] }] 48 4 #[] #[{ accessFlags := 4120, nameIndex := 121, descriptorIndex := 122, attributes := #[] }])
  fields := #[{ name := "$assertionsDisabled", type := .boolean, accessFlags := 4120, slot := 0, constantValue := 0 }]
  methods := #[k10m0]
  instanceTypes := #[]
  staticTypes := #[.boolean]
  resolved := Array.replicate 395 none
  statics := none }

def pool11 : Array CpInfo := pool [(2, .class_ 4), (1, u "java/lang/Object"), (0, u "<init>"), (0, u "()V"), (17, .class_ 26), (1, u "jdk/internal/util/Preconditions"), (28, .class_ 56), (0, u "jdk/internal/util/Preconditions$4"), (57, .class_ 115), (0, u "jdk/internal/util/Preconditions$1"), (7, u "SIOOBE_FORMATTER"), (0, u "Ljava/util/function/BiFunction;"), (0, .class_ 126), (0, u "jdk/internal/util/Preconditions$2"), (3, u "AIOOBE_FORMATTER"), (0, .class_ 132), (0, u "jdk/internal/util/Preconditions$3"), (3, u "IOOBE_FORMATTER")] 57

def k11m0 : Method := { name := "<init>", desc := "()V", sig := { parameters := [], returnType := none }, accessFlags := 1, code := none }
/-- jdk/internal/util/Preconditions -/
def k11 : Class := { plain "jdk/internal/util/Preconditions" (some 0) with
  accessFlags := 33
  interfaces := #[]
  cf := some (fileOf pool11 24 #[.nestMembers #[55, 131, 125, 114]] #[{ accessFlags := 1, nameIndex := 5, descriptorIndex := 6, attributes := #[] }] 33 2 #[] #[{ accessFlags := 25, nameIndex := 123, descriptorIndex := 124, attributes := #[] }, { accessFlags := 25, nameIndex := 130, descriptorIndex := 124, attributes := #[] }, { accessFlags := 25, nameIndex := 136, descriptorIndex := 124, attributes := #[] }])
  fields := #[{ name := "SIOOBE_FORMATTER", type := (.object "java/util/function/BiFunction"), accessFlags := 25, slot := 0, constantValue := 0 }, { name := "AIOOBE_FORMATTER", type := (.object "java/util/function/BiFunction"), accessFlags := 25, slot := 1, constantValue := 0 }, { name := "IOOBE_FORMATTER", type := (.object "java/util/function/BiFunction"), accessFlags := 25, slot := 2, constantValue := 0 }]
  methods := #[k11m0]
  instanceTypes := #[]
  staticTypes := #[(.object "java/util/function/BiFunction"), (.object "java/util/function/BiFunction"), (.object "java/util/function/BiFunction")]
  resolved := Array.replicate 194 none
  statics := some 1 }

def pool12 : Array CpInfo := pool [(9, u "<init>"), (6, .class_ 18), (1, u "java/lang/Object"), (0, u "()V"), (1, .class_ 23), (1, u "jdk/internal/util/ArraysSupport"), (0, u "LOG2_ARRAY_LONG_INDEX_SCALE"), (0, u "I"), (2, u "U"), (0, u "Ljdk/internal/misc/Unsafe;"), (8, u "BIG_ENDIAN"), (0, u "Z"), (8, u "LOG2_BYTE_BIT_SIZE"), (4, u "LOG2_ARRAY_INT_INDEX_SCALE"), (54, u "JLA"), (0, u "Ljdk/internal/access/JavaLangAccess;"), (11, u "LOG2_ARRAY_BOOLEAN_INDEX_SCALE"), (9, u "LOG2_ARRAY_BYTE_INDEX_SCALE"), (5, u "LOG2_ARRAY_CHAR_INDEX_SCALE"), (5, u "LOG2_ARRAY_SHORT_INDEX_SCALE"), (18, u "LOG2_ARRAY_FLOAT_INDEX_SCALE"), (24, u "LOG2_ARRAY_DOUBLE_INDEX_SCALE"), (89, u "T_BOOLEAN"), (2, u "T_CHAR"), (1, u "T_FLOAT"), (1, u "T_DOUBLE"), (1, u "T_BYTE"), (1, u "T_SHORT"), (1, u "T_INT"), (1, u "T_LONG"), (1, u "SOFT_MAX_ARRAY_LENGTH")] 83

def k12m0 : Method := { name := "<init>", desc := "()V", sig := { parameters := [], returnType := none }, accessFlags := 2, code := none }
/-- jdk/internal/util/ArraysSupport -/
def k12 : Class := { plain "jdk/internal/util/ArraysSupport" (some 0) with
  accessFlags := 33
  interfaces := #[]
  cf := some (fileOf pool12 21 #[] #[{ accessFlags := 2, nameIndex := 9, descriptorIndex := 19, attributes := #[] }] 33 16 #[] #[{ accessFlags := 24, nameIndex := 28, descriptorIndex := 29, attributes := #[] }, { accessFlags := 26, nameIndex := 38, descriptorIndex := 39, attributes := #[] }, { accessFlags := 25, nameIndex := 121, descriptorIndex := 25, attributes := #[] }, { accessFlags := 25, nameIndex := 131, descriptorIndex := 25, attributes := #[] }, { accessFlags := 25, nameIndex := 137, descriptorIndex := 25, attributes := #[] }, { accessFlags := 25, nameIndex := 143, descriptorIndex := 25, attributes := #[] }, { accessFlags := 25, nameIndex := 53, descriptorIndex := 25, attributes := #[] }, { accessFlags := 25, nameIndex := 24, descriptorIndex := 25, attributes := #[] }, { accessFlags := 25, nameIndex := 162, descriptorIndex := 25, attributes := #[] }, { accessFlags := 25, nameIndex := 187, descriptorIndex := 25, attributes := #[] }, { accessFlags := 26, nameIndex := 48, descriptorIndex := 25, attributes := #[] }, { accessFlags := 25, nameIndex := 277, descriptorIndex := 25, attributes := #[] }, { accessFlags := 25, nameIndex := 280, descriptorIndex := 25, attributes := #[] }, { accessFlags := 25, nameIndex := 282, descriptorIndex := 25, attributes := #[] }, { accessFlags := 25, nameIndex := 284, descriptorIndex := 25, attributes := #[] }, { accessFlags := 25, nameIndex := 286, descriptorIndex := 25, attributes := #[] }, { accessFlags := 25, nameIndex := 288, descriptorIndex := 25, attributes := #[] }, { accessFlags := 25, nameIndex := 290, descriptorIndex := 25, attributes := #[] }, { accessFlags := 25, nameIndex := 292, descriptorIndex := 25, attributes := #[] }, { accessFlags := 26, nameIndex := 108, descriptorIndex := 109, attributes := #[] }, { accessFlags := 25, nameIndex := 294, descriptorIndex := 25, attributes := #[] }])
  fields := #[{ name := "U", type := (.object "jdk/internal/misc/Unsafe"), accessFlags := 24, slot := 0, constantValue := 0 }, { name := "BIG_ENDIAN", type := .boolean, accessFlags := 26, slot := 1, constantValue := 0 }, { name := "LOG2_ARRAY_BOOLEAN_INDEX_SCALE", type := .int, accessFlags := 25, slot := 2, constantValue := 0 }, { name := "LOG2_ARRAY_BYTE_INDEX_SCALE", type := .int, accessFlags := 25, slot := 3, constantValue := 0 }, { name := "LOG2_ARRAY_CHAR_INDEX_SCALE", type := .int, accessFlags := 25, slot := 4, constantValue := 0 }, { name := "LOG2_ARRAY_SHORT_INDEX_SCALE", type := .int, accessFlags := 25, slot := 5, constantValue := 0 }, { name := "LOG2_ARRAY_INT_INDEX_SCALE", type := .int, accessFlags := 25, slot := 6, constantValue := 0 }, { name := "LOG2_ARRAY_LONG_INDEX_SCALE", type := .int, accessFlags := 25, slot := 7, constantValue := 0 }, { name := "LOG2_ARRAY_FLOAT_INDEX_SCALE", type := .int, accessFlags := 25, slot := 8, constantValue := 0 }, { name := "LOG2_ARRAY_DOUBLE_INDEX_SCALE", type := .int, accessFlags := 25, slot := 9, constantValue := 0 }, { name := "LOG2_BYTE_BIT_SIZE", type := .int, accessFlags := 26, slot := 10, constantValue := 0 }, { name := "T_BOOLEAN", type := .int, accessFlags := 25, slot := 11, constantValue := 0 }, { name := "T_CHAR", type := .int, accessFlags := 25, slot := 12, constantValue := 0 }, { name := "T_FLOAT", type := .int, accessFlags := 25, slot := 13, constantValue := 0 }, { name := "T_DOUBLE", type := .int, accessFlags := 25, slot := 14, constantValue := 0 }, { name := "T_BYTE", type := .int, accessFlags := 25, slot := 15, constantValue := 0 }, { name := "T_SHORT", type := .int, accessFlags := 25, slot := 16, constantValue := 0 }, { name := "T_INT", type := .int, accessFlags := 25, slot := 17, constantValue := 0 }, { name := "T_LONG", type := .int, accessFlags := 25, slot := 18, constantValue := 0 }, { name := "JLA", type := (.object "jdk/internal/access/JavaLangAccess"), accessFlags := 26, slot := 19, constantValue := 0 }, { name := "SOFT_MAX_ARRAY_LENGTH", type := .int, accessFlags := 25, slot := 20, constantValue := 0 }]
  methods := #[k12m0]
  instanceTypes := #[]
  staticTypes := #[(.object "jdk/internal/misc/Unsafe"), .boolean, .int, .int, .int, .int, .int, .int, .int, .int, .int, .int, .int, .int, .int, .int, .int, .int, .int, (.object "jdk/internal/access/JavaLangAccess"), .int]
  resolved := Array.replicate 378 none
  statics := none }

def pool13 : Array CpInfo := pool [(1, u "java/lang/Cloneable"), (0, .class_ 1), (0, u "java/lang/Object"), (0, .class_ 3)] 3

/-- java/lang/Cloneable -/
def k13 : Class := { plain "java/lang/Cloneable" (some 0) with
  accessFlags := 1537
  interfaces := #[]
  cf := some (fileOf pool13 2 #[] #[] 1537 4 #[] #[])
  fields := #[]
  methods := #[]
  instanceTypes := #[]
  staticTypes := #[]
  resolved := Array.replicate 8 none
  statics := none }

/-- the primitive byte -/
def k14 : Class := { plain "byte" none with kind := .primitive 'B', accessFlags := 0x411 }
/-- [B -/
def k15 : Class := { plain "[B" (some 0) with kind := .array 14 .byte, interfaces := #[13, 2], accessFlags := 1041 }

/-- the primitive char -/
def k16 : Class := { plain "char" none with kind := .primitive 'C', accessFlags := 0x411 }
/-- [C -/
def k17 : Class := { plain "[C" (some 0) with kind := .array 16 .char, interfaces := #[13, 2], accessFlags := 1041 }

/-- the primitive int -/
def k18 : Class := { plain "int" none with kind := .primitive 'I', accessFlags := 0x411 }
/-- [I -/
def k19 : Class := { plain "[I" (some 0) with kind := .array 18 .int, interfaces := #[13, 2], accessFlags := 1041 }

/-- the primitive long -/
def k20 : Class := { plain "long" none with kind := .primitive 'J', accessFlags := 0x411 }
/-- [J -/
def k21 : Class := { plain "[J" (some 0) with kind := .array 20 .long, interfaces := #[13, 2], accessFlags := 1041 }

/-- [Ljava/lang/String; -/
def k22 : Class := { plain "[Ljava/lang/String;" (some 0) with kind := .array 7 (.object "java/lang/String"), interfaces := #[13, 2], accessFlags := 1041 }

def heap : Heap := #[{ cls := 7, slots := #[.long 0, .int 1, .null, .int 0, .null, .int 0, .int 0], vm := .statics 7 },
  { cls := 11, slots := #[.null, .null, .null], vm := .statics 11 }]
def classes : Array Class := #[k0, k1, k2, k3, k4, k5, k6, k7, k8, k9, k10, k11, k12, k13, k14, k15, k16, k17, k18, k19, k20, k21, k22]
def interned : List (Array UInt16 × Addr) := []
def slotsUsed : Nat := 10
def theMethod : MethodId := ⟨1, 2⟩
def args0 : Array Value := #[.long 5, .long 3, .long 9, .long 1, .int 4, .int 4]
def aboutOver (below : List Frame) : State where
  vm := { classes := classes, interned := interned.toArray }
  heap := heap
  slotsUsed := slotsUsed
  threads := #[{ frames := .invoking theMethod args0 :: below }]
def below0 : List Frame := [.native { method := ⟨0, 0⟩, args := #[] }]
def about1 : State := aboutOver below0
def p0 : Program := .bare "" "" ""
def e0 : Env := launch0.env 0 0 0
theorem w_frames : about1.frames = Frame.invoking theMethod args0 :: below0 := rfl
set_option maxRecDepth 65536 in
theorem w_args : argsFit about1.vm theMethod args0 = true := by decide +kernel
set_option maxRecDepth 65536 in
theorem w_heap : heapFits about1 = true := by decide +kernel
set_option maxRecDepth 65536 in
theorem w_runnable : about1.curStatus? = some .runnable := by decide +kernel
set_option maxRecDepth 65536 in
theorem w_alone : about1.alone = true := by decide +kernel
set_option maxRecDepth 65536 in
theorem w_named : about1.methodNamed? x = some theMethod := by decide +kernel
set_option maxRecDepth 65536 in
theorem w_hears : about1.hears theMethod below0 = true := by decide +kernel
set_option maxRecDepth 65536 in
theorem w_ripe : about1.ripe theMethod args0 below0 = true := by decide +kernel
theorem w_running : about1.status = .running := rfl
set_option maxRecDepth 65536 in
theorem w_room : about1.hasRoom e0.platform room_1 = true :=
  launch0.hasRoom_least _ room_1 (by decide +kernel) (by decide +kernel) (by decide +kernel) (by decide +kernel) (by decide +kernel) (by decide +kernel)
theorem allAtoms_all (ts : List Jvm.Cond) (a : Array Jvm.Value) (st : Jvm.State) : (allAtoms ts).before a st = ts.all (fun c => c.before a st) := by
  induction ts with
  | nil => rfl
  | cons c t ih =>
    show (Jvm.Cond.and c (allAtoms t)).before a st = _
    rw [Jvm.Cond.before_and, ih, List.all_cons]
def words1 : List Jvm.Cond := Jvm.Cond.code x code maxLocals ret :: tables_1
/-- a 'code' word, met by the world's own term for the bytes: nothing is compared byte by byte -/
theorem code_word {y : MethodName} {bytes : ByteArray} {mx : Nat} {rt : Option FieldType} {a : Array Value} {s : State} {m : MethodId} {meth : Method} {c : Code} (h1 : s.methodNamed? y = some m) (h2 : s.vm.method? m = some meth) (h3 : meth.code = some c) (h4 : c.code = bytes)
    (h5 : (c.maxLocals == mx && c.exceptionTable.isEmpty && decide (c.maxStack ≤ mostOperands) && decide (meth.sig.returnType = rt) && !meth.locks && decide (parseMethodDescriptor y.desc = some meth.sig)) = true) : (Jvm.Cond.code y bytes mx rt).before a s = true := by
  simp only [Bool.and_eq_true, beq_iff_eq, Bool.not_eq_true', decide_eq_true_eq] at h5
  obtain ⟨⟨⟨⟨⟨g1, g2⟩, g3⟩, g4⟩, g5⟩, g6⟩ := h5
  simp [Cond.before, Cond.holds, Cond.value, h1, h2, h3, h4, g1, g2, g3, g4, g5, g6]
def isCode : Jvm.Cond → Bool
  | .code _ _ _ _ => true
  | _ => false
theorem all_split {L : List Jvm.Cond} {P : Jvm.Cond → Bool} (h1 : L.all (fun c => isCode c || P c) = true) (h2 : ∀ c ∈ L.filter isCode, P c = true) : L.all P = true := by
  refine List.all_eq_true.mpr fun c hc => ?_
  have h := List.all_eq_true.mp h1 c hc
  rcases Bool.eq_false_or_eq_true (isCode c) with hi | hi
  · exact h2 c (List.mem_filter.mpr ⟨hc, hi⟩)
  · simpa [hi] using h
set_option maxRecDepth 65536 in
theorem w_c0 : (Jvm.Cond.code x code maxLocals ret).before args0 about1 = true := code_word (m := ⟨1, 2⟩) (meth := k1m2) (c := k1c2) (by decide +kernel) rfl rfl rfl (by decide +kernel)
set_option maxRecDepth 65536 in
theorem w_c1 : (Jvm.Cond.code ({ cls := "com/example/bones_of_bytecode/bonesofbytecode/DecodedStringsGetPinLaw", name := "slotsFor", desc := "(J)I" } : Jvm.MethodName) method_2_code (2 : Nat) (Option.some Jvm.ClassFile.FieldType.int)).before args0 about1 = true := code_word (m := ⟨1, 1⟩) (meth := k1m1) (c := k1c1) (by decide +kernel) rfl rfl rfl (by decide +kernel)
set_option maxRecDepth 65536 in
theorem w_c2 : (Jvm.Cond.code ({ cls := "java/lang/String", name := "<init>", desc := "([C)V" } : Jvm.MethodName) jdk_42_method_3_code (2 : Nat) (Option.none : Option Jvm.ClassFile.FieldType)).before args0 about1 = true := code_word (m := ⟨7, 1⟩) (meth := k7m1) (c := k7c1) (by decide +kernel) rfl rfl rfl (by decide +kernel)
set_option maxRecDepth 65536 in
theorem w_c3 : (Jvm.Cond.code ({ cls := "java/lang/String", name := "<init>", desc := "([CIILjava/lang/Void;)V" } : Jvm.MethodName) jdk_42_method_149_code (6 : Nat) (Option.none : Option Jvm.ClassFile.FieldType)).before args0 about1 = true := code_word (m := ⟨7, 3⟩) (meth := k7m3) (c := k7c3) (by decide +kernel) rfl rfl rfl (by decide +kernel)
set_option maxRecDepth 65536 in
theorem w_c4 : (Jvm.Cond.code ({ cls := "java/lang/Object", name := "<init>", desc := "()V" } : Jvm.MethodName) object_method_1_code (1 : Nat) (Option.none : Option Jvm.ClassFile.FieldType)).before args0 about1 = true := code_word (m := ⟨0, 0⟩) (meth := k0m0) (c := k0c0) (by decide +kernel) rfl rfl rfl (by decide +kernel)
set_option maxRecDepth 65536 in
theorem w_c5 : (Jvm.Cond.code ({ cls := "java/lang/StringUTF16", name := "compress", desc := "([CII)[B" } : Jvm.MethodName) jdk_52_method_16_code (6 : Nat) (Option.some (Jvm.ClassFile.FieldType.array Jvm.ClassFile.FieldType.byte))).before args0 about1 = true := code_word (m := ⟨8, 2⟩) (meth := k8m2) (c := k8c2) (by decide +kernel) rfl rfl rfl (by decide +kernel)
set_option maxRecDepth 65536 in
theorem w_c6 : (Jvm.Cond.code ({ cls := "java/lang/StringUTF16", name := "compress", desc := "([CI[BII)I" } : Jvm.MethodName) jdk_52_method_21_code (7 : Nat) (Option.some Jvm.ClassFile.FieldType.int)).before args0 about1 = true := code_word (m := ⟨8, 3⟩) (meth := k8m3) (c := k8c3) (by decide +kernel) rfl rfl rfl (by decide +kernel)
set_option maxRecDepth 65536 in
theorem w_c7 : (Jvm.Cond.code ({ cls := "java/lang/StringUTF16", name := "coderFromArrayLen", desc := "([BI)B" } : Jvm.MethodName) jdk_52_method_15_code (2 : Nat) (Option.some Jvm.ClassFile.FieldType.byte)).before args0 about1 = true := code_word (m := ⟨8, 1⟩) (meth := k8m1) (c := k8c1) (by decide +kernel) rfl rfl rfl (by decide +kernel)
set_option maxRecDepth 65536 in
theorem w_c8 : (Jvm.Cond.code ({ cls := "com/example/bones_of_bytecode/bonesofbytecode/DecodedStrings", name := "<init>", desc := "(J)V" } : Jvm.MethodName) prog_26_method_1_code (4 : Nat) (Option.none : Option Jvm.ClassFile.FieldType)).before args0 about1 = true := code_word (m := ⟨9, 0⟩) (meth := k9m0) (c := k9c0) (by decide +kernel) rfl rfl rfl (by decide +kernel)
set_option maxRecDepth 65536 in
theorem w_c9 : (Jvm.Cond.code ({ cls := "com/example/bones_of_bytecode/bonesofbytecode/DecodedStrings", name := "get", desc := "(J)Ljava/lang/String;" } : Jvm.MethodName) prog_26_method_2_code (4 : Nat) (Option.some (Jvm.ClassFile.FieldType.object "java/lang/String"))).before args0 about1 = true := code_word (m := ⟨9, 1⟩) (meth := k9m1) (c := k9c1) (by decide +kernel) rfl rfl rfl (by decide +kernel)
set_option maxRecDepth 65536 in
theorem w_c10 : (Jvm.Cond.code ({ cls := "com/example/bones_of_bytecode/bonesofbytecode/DecodedStrings", name := "keep", desc := "(JLjava/lang/String;)V" } : Jvm.MethodName) prog_26_method_3_code (8 : Nat) (Option.none : Option Jvm.ClassFile.FieldType)).before args0 about1 = true := code_word (m := ⟨9, 2⟩) (meth := k9m2) (c := k9c2) (by decide +kernel) rfl rfl rfl (by decide +kernel)
set_option maxRecDepth 65536 in
theorem w_c11 : (Jvm.Cond.code ({ cls := "java/lang/String", name := "length", desc := "()I" } : Jvm.MethodName) jdk_42_method_54_code (1 : Nat) (Option.some Jvm.ClassFile.FieldType.int)).before args0 about1 = true := code_word (m := ⟨7, 2⟩) (meth := k7m2) (c := k7c2) (by decide +kernel) rfl rfl rfl (by decide +kernel)
set_option maxRecDepth 65536 in
theorem w_c12 : (Jvm.Cond.code ({ cls := "java/lang/String", name := "coder", desc := "()B" } : Jvm.MethodName) jdk_42_method_152_code (1 : Nat) (Option.some Jvm.ClassFile.FieldType.byte)).before args0 about1 = true := code_word (m := ⟨7, 4⟩) (meth := k7m4) (c := k7c4) (by decide +kernel) rfl rfl rfl (by decide +kernel)
def codes1 : List Jvm.Cond := [Jvm.Cond.code x code maxLocals ret, Jvm.Cond.code ({ cls := "com/example/bones_of_bytecode/bonesofbytecode/DecodedStringsGetPinLaw", name := "slotsFor", desc := "(J)I" } : Jvm.MethodName) method_2_code (2 : Nat) (Option.some Jvm.ClassFile.FieldType.int), Jvm.Cond.code ({ cls := "java/lang/String", name := "<init>", desc := "([C)V" } : Jvm.MethodName) jdk_42_method_3_code (2 : Nat) (Option.none : Option Jvm.ClassFile.FieldType), Jvm.Cond.code ({ cls := "java/lang/String", name := "<init>", desc := "([CIILjava/lang/Void;)V" } : Jvm.MethodName) jdk_42_method_149_code (6 : Nat) (Option.none : Option Jvm.ClassFile.FieldType), Jvm.Cond.code ({ cls := "java/lang/Object", name := "<init>", desc := "()V" } : Jvm.MethodName) object_method_1_code (1 : Nat) (Option.none : Option Jvm.ClassFile.FieldType), Jvm.Cond.code ({ cls := "java/lang/StringUTF16", name := "compress", desc := "([CII)[B" } : Jvm.MethodName) jdk_52_method_16_code (6 : Nat) (Option.some (Jvm.ClassFile.FieldType.array Jvm.ClassFile.FieldType.byte)), Jvm.Cond.code ({ cls := "java/lang/StringUTF16", name := "compress", desc := "([CI[BII)I" } : Jvm.MethodName) jdk_52_method_21_code (7 : Nat) (Option.some Jvm.ClassFile.FieldType.int), Jvm.Cond.code ({ cls := "java/lang/StringUTF16", name := "coderFromArrayLen", desc := "([BI)B" } : Jvm.MethodName) jdk_52_method_15_code (2 : Nat) (Option.some Jvm.ClassFile.FieldType.byte), Jvm.Cond.code ({ cls := "com/example/bones_of_bytecode/bonesofbytecode/DecodedStrings", name := "<init>", desc := "(J)V" } : Jvm.MethodName) prog_26_method_1_code (4 : Nat) (Option.none : Option Jvm.ClassFile.FieldType), Jvm.Cond.code ({ cls := "com/example/bones_of_bytecode/bonesofbytecode/DecodedStrings", name := "get", desc := "(J)Ljava/lang/String;" } : Jvm.MethodName) prog_26_method_2_code (4 : Nat) (Option.some (Jvm.ClassFile.FieldType.object "java/lang/String")), Jvm.Cond.code ({ cls := "com/example/bones_of_bytecode/bonesofbytecode/DecodedStrings", name := "keep", desc := "(JLjava/lang/String;)V" } : Jvm.MethodName) prog_26_method_3_code (8 : Nat) (Option.none : Option Jvm.ClassFile.FieldType), Jvm.Cond.code ({ cls := "java/lang/String", name := "length", desc := "()I" } : Jvm.MethodName) jdk_42_method_54_code (1 : Nat) (Option.some Jvm.ClassFile.FieldType.int), Jvm.Cond.code ({ cls := "java/lang/String", name := "coder", desc := "()B" } : Jvm.MethodName) jdk_42_method_152_code (1 : Nat) (Option.some Jvm.ClassFile.FieldType.byte)]
set_option maxRecDepth 65536 in
theorem codes_eq : words1.filter isCode = codes1 := rfl
theorem w_codes : ∀ c ∈ words1.filter isCode, c.before args0 about1 = true := by
  rw [codes_eq]
  intro c hc
  simp only [codes1, List.mem_cons, List.not_mem_nil, or_false] at hc
  rcases hc with rfl | rfl | rfl | rfl | rfl | rfl | rfl | rfl | rfl | rfl | rfl | rfl | rfl
  · exact w_c0
  · exact w_c1
  · exact w_c2
  · exact w_c3
  · exact w_c4
  · exact w_c5
  · exact w_c6
  · exact w_c7
  · exact w_c8
  · exact w_c9
  · exact w_c10
  · exact w_c11
  · exact w_c12
set_option maxRecDepth 65536 in
theorem w_t1 : (words1.take 24).all (fun c => isCode c || c.before args0 about1) = true := by decide +kernel
set_option maxRecDepth 65536 in
theorem w_t2 : ((words1.drop 24).take 24).all (fun c => isCode c || c.before args0 about1) = true := by decide +kernel
set_option maxRecDepth 65536 in
theorem w_t3 : (((words1.drop 24).drop 24).take 24).all (fun c => isCode c || c.before args0 about1) = true := by decide +kernel
set_option maxRecDepth 65536 in
theorem w_t4 : (((words1.drop 24).drop 24).drop 24).all (fun c => isCode c || c.before args0 about1) = true := by decide +kernel
theorem w_tables : (allAtoms (Jvm.Cond.code x code maxLocals ret :: tables_1)).before args0 about1 = true := by
  rw [allAtoms_all]
  show words1.all (fun c => c.before args0 about1) = true
  refine all_split ?_ w_codes
  rw [← List.take_append_drop 24 words1, List.all_append, w_t1, ← List.take_append_drop 24 (words1.drop 24), List.all_append, w_t2, ← List.take_append_drop 24 ((words1.drop 24).drop 24), List.all_append, w_t3, w_t4]
  rfl
set_option maxRecDepth 65536 in
theorem w_rest : rest_1_c.before args0 about1 = true := by decide +kernel
set_option maxRecDepth 65536 in
theorem w_case : (Jvm.Cond.and given_1 narrow_1).before args0 about1 = true := by decide +kernel
theorem w_applies : (headSpec (Jvm.Cond.code x code maxLocals ret :: tables_1) room_1).applies x e0.platform about1 = true :=
  (Spec.applies_iff w_frames).mpr ⟨w_running, w_runnable, w_alone, w_named, w_hears, w_ripe, w_room, w_tables⟩
theorem atStart : AtStart classFile x code maxLocals ret World_1 tables_1 room_1 Calls_1 rest_1 Pre_1 launch0 p0 e0 about1 theMethod args0 below0 :=
  ⟨lists_1, trivial, launch0.admits_env _ _ _, launch0.least_env, fairChoices_fair.cas, fairChoices_fair.clock, w_frames, w_args, w_heap, w_applies, trivial, w_rest, w_case⟩
end start1
theorem witness_1 : WitnessClaimed_1 := ⟨start1.p0, start1.e0, start1.about1, start1.theMethod, start1.args0, start1.below0, start1.atStart⟩
end Jvm.Pilot.@@N@@
