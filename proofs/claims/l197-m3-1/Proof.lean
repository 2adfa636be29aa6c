import JvmDerived
import JvmDerived.Pilot.@@N@@Statement
import JvmDerived.Pilot.@@N@@Code
set_option linter.unusedVariables false
set_option linter.unusedSimpArgs false
namespace Jvm.OwnK
open Sem ClassFile Op Lib Jvm.Stand Jvm.Free Jvm.LawKit Jvm.RoadKit
/-- from cur the body's run returns; Q holds of what it returns, the heap then, the places written; F of the end -/
def EndG (p : Program) (e : Env) (below : List Frame) (F : Outcome → State → List Loc → Prop) (Q : Option Value → Heap → List Loc → Prop) (cur : State) : Prop :=
  ∃ s₂ o, Steps p.tables e below cur s₂ ∧ s₂.status = .running ∧ Ended s₂ below o ∧ ∃ v L, o = .returned v ∧ Q v s₂.heap L ∧ F o s₂ L
abbrev End (p : Program) (e : Env) (below : List Frame) (s : State) (Q : Option Value → Heap → List Loc → Prop) (cl sl : Nat) (cur : State) : Prop := EndG p e below (fun o t L => FrameEnd s o t L cl sl) Q cur
/-- a body's contract: entered with the arguments 'as' at the heap h (tables warmer than Z's) it returns, and Q holds -/
def Con (l : Launch) (Z : State) (y : MethodName) (bytes : ByteArray) (maxL : Nat) (ret : Option FieldType) (ws : List Cond) (rm : Room) (as : Array Value) (h : Heap) (Q : Option Value → Heap → List Loc → Prop) : Prop :=
  MetFree l y (head1 (Cond.code y bytes maxL ret :: ws) rm) (fun a U => a = as ∧ Z.Warmed39 U.vm ∧ U.heap = h) (fun _ _ _ _ _ => True) (fun _ U o U' => ∃ v L, o = .returned v ∧ Q v U'.heap L ∧ FrameEnd U o U' L rm.cells rm.slots)
theorem retI_eq {a b : Int32} (h : b = a) : (some (Value.int a) : Option Value) = some (.int b) := by rw [h]
theorem retJ_eq {a b : Int64} (h : b = a) : (some (Value.long a) : Option Value) = some (.long b) := by rw [h]
theorem retD_eq {a b : UInt64} (h : b = a) : (some (Value.double a) : Option Value) = some (.double b) := by rw [h]
section Steps
variable {p : Program} {l : Launch} {e : Env} {R : Room} {s : State} {m : MethodId} {args : Array Value} {below : List Frame} {meth : Method} {c : Code} {T : State} {locs : List Loc} {cells slots : Nat} {Fe : Outcome → State → List Loc → Prop} {Q : Option Value → Heap → List Loc → Prop} {cl sl : Nat} {pc q : Nat} {Ls : Array Slot} {rest : List Value}
theorem EndG.st {cur nxt : State} (k : EndG p e below Fe Q nxt) (st : ∀ t, Steps p.tables e below nxt t → Steps p.tables e below cur t) : EndG p e below Fe Q cur := by
  obtain ⟨s₂, o, h1, r⟩ := k; exact ⟨s₂, o, st _ h1, r⟩
theorem EndG.tr {cur nxt : State} (k : EndG p e below Fe Q nxt) (st : Steps p.tables e below cur nxt) : EndG p e below Fe Q cur := by
  obtain ⟨s₂, o, h1, r⟩ := k; exact ⟨s₂, o, st.trans h1, r⟩
theorem End.cast {g g' : JFrame} (k : EndG p e below Fe Q (T.setTop g')) (h : g = g') : EndG p e below Fe Q (T.setTop g) := h ▸ k
theorem Con.of {Z : State} {y : MethodName} {bytes : ByteArray} {maxL : Nat} {ret : Option FieldType} {ws : List Cond} {rm : Room} {as : Array Value} {h : Heap} (hpl : plainFor y = true)
    (body : ∀ (p : Program) (e : Env) (s : State) (m : MethodId) (below : List Frame) (meth : Method) (c : Code) (s₁ : State), Stand p l e rm s m as below meth c s₁ [] 0 0 → p.tables.exec = Jvm.exec → c.code = bytes → c.maxLocals = maxL → s.vm.findClass y.cls = some m.cls → meth.name = y.name → meth.sig.returnType = ret → meth.locks = false → Z.Warmed39 s.vm → s₁.heap = h → End p e below s Q rm.cells rm.slots (s₁.setTop (entryFrame m as maxL))) :
    Con l Z y bytes maxL ret ws rm as h Q := by
  refine MetFree.of_bodySF hpl hisR ?_
  intro p e s m args below meth c s₁ Bd hml hP hK
  obtain ⟨rfl, hZ, hh⟩ := hP
  obtain ⟨s₂, o, h1, h2, h3, v, L, h4, h5, h6⟩ := body p e s m below meth c s₁ (Stand.of_body Bd) Bd.exec Bd.bytes hml (findClass_of_methodNamed Bd.named) (name_of_methodNamed Bd.named Bd.method).1 Bd.returns Bd.notSynchronized hZ (by rw [← hh, Bd.state]; rfl)
  exact ⟨s₂, o, h1, h2, h3, v, L, h4, h5, h6⟩
theorem Con.mono {Z : State} {y : MethodName} {bytes : ByteArray} {maxL : Nat} {ret : Option FieldType} {ws : List Cond} {rm : Room} {as : Array Value} {h : Heap} {Q' : Option Value → Heap → List Loc → Prop} (k : Con l Z y bytes maxL ret ws rm as h Q) (hQ : ∀ v hh L, Q v hh L → Q' v hh L) : Con l Z y bytes maxL ret ws rm as h Q' := by
  intro p e ha hc hk s m args below hf happ hP hK
  obtain ⟨n, o, h1, h2, h3, v, L, h4, h5, h6⟩ := k p e ha hc hk s m args below hf happ hP hK
  exact ⟨n, o, h1, h2, h3, v, L, h4, hQ _ _ _ h5, h6⟩
theorem k_iloadN (X : Stand p l e R s m args below meth c T locs cells slots) (hx : p.tables.exec = Jvm.exec) {j : Fin 4} {v : Int32} (hq : pc + 1 = q) (hd : decode c.code pc = .ok (.iload_n j, 1)) (hl : Ls[j.val]? = some (.val (.int v))) (k : EndG p e below Fe Q (T.setTop (mkF m q Ls (.int v :: rest)))) : EndG p e below Fe Q (T.setTop (mkF m pc Ls (rest))) := by
  subst hq; exact k.st fun t w => XS.iloadN X.here hx rfl hd hl w
theorem k_iload (X : Stand p l e R s m args below meth c T locs cells slots) (hx : p.tables.exec = Jvm.exec) {j : Nat} {v : Int32} (hq : pc + 2 = q) (hd : decode c.code pc = .ok (.iload j, 2)) (hl : Ls[j]? = some (.val (.int v))) (k : EndG p e below Fe Q (T.setTop (mkF m q Ls (.int v :: rest)))) : EndG p e below Fe Q (T.setTop (mkF m pc Ls (rest))) := by
  subst hq; exact k.st fun t w => XS.iload X.here hx rfl hd hl w
theorem k_istoreN (X : Stand p l e R s m args below meth c T locs cells slots) (hx : p.tables.exec = Jvm.exec) {j : Fin 4} {v : Int32} {L' : Array Slot} (hq : pc + 1 = q) (hd : decode c.code pc = .ok (.istore_n j, 1)) (hl : storeLocals Ls j.val (.int v) = some L') (k : EndG p e below Fe Q (T.setTop (mkF m q L' (rest)))) : EndG p e below Fe Q (T.setTop (mkF m pc Ls (.int v :: rest))) := by
  subst hq; exact k.st fun t w => XS.istoreN X.here hx rfl hd rfl hl w
theorem k_istore (X : Stand p l e R s m args below meth c T locs cells slots) (hx : p.tables.exec = Jvm.exec) {j : Nat} {v : Int32} {L' : Array Slot} (hq : pc + 2 = q) (hd : decode c.code pc = .ok (.istore j, 2)) (hl : storeLocals Ls j (.int v) = some L') (k : EndG p e below Fe Q (T.setTop (mkF m q L' (rest)))) : EndG p e below Fe Q (T.setTop (mkF m pc Ls (.int v :: rest))) := by
  subst hq; exact k.st fun t w => XS.istore X.here hx rfl hd rfl hl w
theorem k_lloadN (X : Stand p l e R s m args below meth c T locs cells slots) (hx : p.tables.exec = Jvm.exec) {j : Fin 4} {v : Int64} (hq : pc + 1 = q) (hd : decode c.code pc = .ok (.lload_n j, 1)) (hl : Ls[j.val]? = some (.val (.long v))) (k : EndG p e below Fe Q (T.setTop (mkF m q Ls (.long v :: rest)))) : EndG p e below Fe Q (T.setTop (mkF m pc Ls (rest))) := by
  subst hq; exact k.st fun t w => XS.lloadN X.here hx rfl hd hl w
theorem k_lload (X : Stand p l e R s m args below meth c T locs cells slots) (hx : p.tables.exec = Jvm.exec) {j : Nat} {v : Int64} (hq : pc + 2 = q) (hd : decode c.code pc = .ok (.lload j, 2)) (hl : Ls[j]? = some (.val (.long v))) (k : EndG p e below Fe Q (T.setTop (mkF m q Ls (.long v :: rest)))) : EndG p e below Fe Q (T.setTop (mkF m pc Ls (rest))) := by
  subst hq; exact k.st fun t w => XS.lload X.here hx rfl hd hl w
theorem k_lstoreN (X : Stand p l e R s m args below meth c T locs cells slots) (hx : p.tables.exec = Jvm.exec) {j : Fin 4} {v : Int64} {L' : Array Slot} (hq : pc + 1 = q) (hd : decode c.code pc = .ok (.lstore_n j, 1)) (hl : storeLocals Ls j.val (.long v) = some L') (k : EndG p e below Fe Q (T.setTop (mkF m q L' (rest)))) : EndG p e below Fe Q (T.setTop (mkF m pc Ls (.long v :: rest))) := by
  subst hq; exact k.st fun t w => XS.lstoreN X.here hx rfl hd rfl hl w
theorem k_lstore (X : Stand p l e R s m args below meth c T locs cells slots) (hx : p.tables.exec = Jvm.exec) {j : Nat} {v : Int64} {L' : Array Slot} (hq : pc + 2 = q) (hd : decode c.code pc = .ok (.lstore j, 2)) (hl : storeLocals Ls j (.long v) = some L') (k : EndG p e below Fe Q (T.setTop (mkF m q L' (rest)))) : EndG p e below Fe Q (T.setTop (mkF m pc Ls (.long v :: rest))) := by
  subst hq; exact k.st fun t w => XS.lstore X.here hx rfl hd rfl hl w
theorem k_aloadN (X : Stand p l e R s m args below meth c T locs cells slots) (hx : p.tables.exec = Jvm.exec) {j : Fin 4} {v : Value} (hq : pc + 1 = q) (hd : decode c.code pc = .ok (.aload_n j, 1)) (hl : Ls[j.val]? = some (.val v)) (hv : v.isRef = true) (k : EndG p e below Fe Q (T.setTop (mkF m q Ls (v :: rest)))) : EndG p e below Fe Q (T.setTop (mkF m pc Ls (rest))) := by
  subst hq; exact k.st fun t w => XS.aloadN X.here hx rfl hd hl hv w
theorem k_aload (X : Stand p l e R s m args below meth c T locs cells slots) (hx : p.tables.exec = Jvm.exec) {j : Nat} {v : Value} (hq : pc + 2 = q) (hd : decode c.code pc = .ok (.aload j, 2)) (hl : Ls[j]? = some (.val v)) (hv : v.isRef = true) (k : EndG p e below Fe Q (T.setTop (mkF m q Ls (v :: rest)))) : EndG p e below Fe Q (T.setTop (mkF m pc Ls (rest))) := by
  subst hq; exact k.st fun t w => XS.aload X.here hx rfl hd hl hv w
theorem k_astore (X : Stand p l e R s m args below meth c T locs cells slots) (hx : p.tables.exec = Jvm.exec) {j : Nat} {v : Value} {L' : Array Slot} (hq : pc + 2 = q) (hd : decode c.code pc = .ok (.astore j, 2)) (hv : v.isRef = true) (hl : storeLocals Ls j v = some L') (k : EndG p e below Fe Q (T.setTop (mkF m q L' (rest)))) : EndG p e below Fe Q (T.setTop (mkF m pc Ls (v :: rest))) := by
  subst hq; exact k.st fun t w => XS.astore X.here hx rfl hd rfl hv hl w
theorem k_iconst (X : Stand p l e R s m args below meth c T locs cells slots) (hx : p.tables.exec = Jvm.exec) {i : Int} {v : Int32} (hv : Int32.ofInt i = v) (hq : pc + 1 = q) (hd : decode c.code pc = .ok (.iconst i, 1)) (k : EndG p e below Fe Q (T.setTop (mkF m q Ls (.int v :: rest)))) : EndG p e below Fe Q (T.setTop (mkF m pc Ls (rest))) := by
  subst hq hv; exact k.st fun t w => XS.iconst X.here hx rfl hd w
theorem k_bipush (X : Stand p l e R s m args below meth c T locs cells slots) (hx : p.tables.exec = Jvm.exec) {i : Int} {v : Int32} (hv : (Int8.ofInt i).toInt32 = v) (hq : pc + 2 = q) (hd : decode c.code pc = .ok (.bipush i, 2)) (k : EndG p e below Fe Q (T.setTop (mkF m q Ls (.int v :: rest)))) : EndG p e below Fe Q (T.setTop (mkF m pc Ls (rest))) := by
  subst hq hv; exact k.st fun t w => XS.bipush X.here hx rfl hd w
theorem k_sipush (X : Stand p l e R s m args below meth c T locs cells slots) (hx : p.tables.exec = Jvm.exec) {i : Int} {v : Int32} (hv : (Int16.ofInt i).toInt32 = v) (hq : pc + 3 = q) (hd : decode c.code pc = .ok (.sipush i, 3)) (k : EndG p e below Fe Q (T.setTop (mkF m q Ls (.int v :: rest)))) : EndG p e below Fe Q (T.setTop (mkF m pc Ls (rest))) := by
  subst hq hv; exact k.st fun t w => XS.sipush X.here hx rfl hd w
theorem k_lconst (X : Stand p l e R s m args below meth c T locs cells slots) (hx : p.tables.exec = Jvm.exec) {i : Fin 2} {v : Int64} (hv : Int64.ofNat i = v) (hq : pc + 1 = q) (hd : decode c.code pc = .ok (.lconst i, 1)) (k : EndG p e below Fe Q (T.setTop (mkF m q Ls (.long v :: rest)))) : EndG p e below Fe Q (T.setTop (mkF m pc Ls (rest))) := by
  subst hq hv; exact k.st fun t w => XS.lconst X.here hx rfl hd w
theorem k_iadd (X : Stand p l e R s m args below meth c T locs cells slots) (hx : p.tables.exec = Jvm.exec) {x y : Int32} (hq : pc + 1 = q) (hd : decode c.code pc = .ok (.iadd, 1)) (k : EndG p e below Fe Q (T.setTop (mkF m q Ls (.int (x + y) :: rest)))) : EndG p e below Fe Q (T.setTop (mkF m pc Ls (.int y :: .int x :: rest))) := by
  subst hq; exact k.st fun t w => XS.iadd X.here hx rfl hd rfl w
theorem k_isub (X : Stand p l e R s m args below meth c T locs cells slots) (hx : p.tables.exec = Jvm.exec) {x y : Int32} (hq : pc + 1 = q) (hd : decode c.code pc = .ok (.isub, 1)) (k : EndG p e below Fe Q (T.setTop (mkF m q Ls (.int (x - y) :: rest)))) : EndG p e below Fe Q (T.setTop (mkF m pc Ls (.int y :: .int x :: rest))) := by
  subst hq; exact k.st fun t w => XS.isub X.here hx rfl hd rfl w
theorem k_imul (X : Stand p l e R s m args below meth c T locs cells slots) (hx : p.tables.exec = Jvm.exec) {x y : Int32} (hq : pc + 1 = q) (hd : decode c.code pc = .ok (.imul, 1)) (k : EndG p e below Fe Q (T.setTop (mkF m q Ls (.int (x * y) :: rest)))) : EndG p e below Fe Q (T.setTop (mkF m pc Ls (.int y :: .int x :: rest))) := by
  subst hq; exact k.st fun t w => XS.imul X.here hx rfl hd rfl w
theorem k_iand (X : Stand p l e R s m args below meth c T locs cells slots) (hx : p.tables.exec = Jvm.exec) {x y : Int32} (hq : pc + 1 = q) (hd : decode c.code pc = .ok (.iand, 1)) (k : EndG p e below Fe Q (T.setTop (mkF m q Ls (.int (x &&& y) :: rest)))) : EndG p e below Fe Q (T.setTop (mkF m pc Ls (.int y :: .int x :: rest))) := by
  subst hq; exact k.st fun t w => XS.iand X.here hx rfl hd rfl w
theorem k_land (X : Stand p l e R s m args below meth c T locs cells slots) (hx : p.tables.exec = Jvm.exec) {x y : Int64} (hq : pc + 1 = q) (hd : decode c.code pc = .ok (.land, 1)) (k : EndG p e below Fe Q (T.setTop (mkF m q Ls (.long (x &&& y) :: rest)))) : EndG p e below Fe Q (T.setTop (mkF m pc Ls (.long y :: .long x :: rest))) := by
  subst hq; exact k.st fun t w => XS.land X.here hx rfl hd rfl w
theorem k_ior (X : Stand p l e R s m args below meth c T locs cells slots) (hx : p.tables.exec = Jvm.exec) {x y : Int32} (hq : pc + 1 = q) (hd : decode c.code pc = .ok (.ior, 1)) (k : EndG p e below Fe Q (T.setTop (mkF m q Ls (.int (x ||| y) :: rest)))) : EndG p e below Fe Q (T.setTop (mkF m pc Ls (.int y :: .int x :: rest))) := by
  subst hq; exact k.st fun t w => XS.ior X.here hx rfl hd rfl w
theorem k_lor (X : Stand p l e R s m args below meth c T locs cells slots) (hx : p.tables.exec = Jvm.exec) {x y : Int64} (hq : pc + 1 = q) (hd : decode c.code pc = .ok (.lor, 1)) (k : EndG p e below Fe Q (T.setTop (mkF m q Ls (.long (x ||| y) :: rest)))) : EndG p e below Fe Q (T.setTop (mkF m pc Ls (.long y :: .long x :: rest))) := by
  subst hq; exact k.st fun t w => XS.lor X.here hx rfl hd rfl w
theorem k_irem (X : Stand p l e R s m args below meth c T locs cells slots) (hx : p.tables.exec = Jvm.exec) {x y : Int32} (hq : pc + 1 = q) (hd : decode c.code pc = .ok (.irem, 1)) (hy : y ≠ 0) (k : EndG p e below Fe Q (T.setTop (mkF m q Ls (.int (x % y) :: rest)))) : EndG p e below Fe Q (T.setTop (mkF m pc Ls (.int y :: .int x :: rest))) := by
  subst hq; exact k.st fun t w => iremM X hx rfl hd rfl hy w
theorem k_iushr (X : Stand p l e R s m args below meth c T locs cells slots) (hx : p.tables.exec = Jvm.exec) {x y : Int32} (hq : pc + 1 = q) (hd : decode c.code pc = .ok (.iushr, 1)) (k : EndG p e below Fe Q (T.setTop (mkF m q Ls (.int ((x.toUInt32 >>> (y &&& 31).toUInt32).toInt32) :: rest)))) : EndG p e below Fe Q (T.setTop (mkF m pc Ls (.int y :: .int x :: rest))) := by
  subst hq; exact k.st fun t w => XS.iushr X.here hx rfl hd rfl w
theorem k_lshl (X : Stand p l e R s m args below meth c T locs cells slots) (hx : p.tables.exec = Jvm.exec) {x : Int64} {y : Int32} (hq : pc + 1 = q) (hd : decode c.code pc = .ok (.lshl, 1)) (k : EndG p e below Fe Q (T.setTop (mkF m q Ls (.long (x <<< (y &&& 0x3f).toInt64) :: rest)))) : EndG p e below Fe Q (T.setTop (mkF m pc Ls (.int y :: .long x :: rest))) := by
  subst hq; exact k.st fun t w => XS.lshl X.here hx rfl hd rfl w
theorem k_lushr (X : Stand p l e R s m args below meth c T locs cells slots) (hx : p.tables.exec = Jvm.exec) {x : Int64} {y : Int32} (hq : pc + 1 = q) (hd : decode c.code pc = .ok (.lushr, 1)) (k : EndG p e below Fe Q (T.setTop (mkF m q Ls (.long ((x.toUInt64 >>> (y &&& 0x3f).toInt64.toUInt64).toInt64) :: rest)))) : EndG p e below Fe Q (T.setTop (mkF m pc Ls (.int y :: .long x :: rest))) := by
  subst hq; exact k.st fun t w => XS.lushr X.here hx rfl hd rfl w
theorem k_i2l (X : Stand p l e R s m args below meth c T locs cells slots) (hx : p.tables.exec = Jvm.exec) {x : Int32} (hq : pc + 1 = q) (hd : decode c.code pc = .ok (.i2l, 1)) (k : EndG p e below Fe Q (T.setTop (mkF m q Ls (.long x.toInt64 :: rest)))) : EndG p e below Fe Q (T.setTop (mkF m pc Ls (.int x :: rest))) := by
  subst hq; exact k.st fun t w => XS.i2l X.here hx rfl hd rfl w
theorem k_l2i (X : Stand p l e R s m args below meth c T locs cells slots) (hx : p.tables.exec = Jvm.exec) {x : Int64} (hq : pc + 1 = q) (hd : decode c.code pc = .ok (.l2i, 1)) (k : EndG p e below Fe Q (T.setTop (mkF m q Ls (.int x.toInt32 :: rest)))) : EndG p e below Fe Q (T.setTop (mkF m pc Ls (.long x :: rest))) := by
  subst hq; exact k.st fun t w => XS.l2i X.here hx rfl hd rfl w
theorem k_i2b (X : Stand p l e R s m args below meth c T locs cells slots) (hx : p.tables.exec = Jvm.exec) {x : Int32} (hq : pc + 1 = q) (hd : decode c.code pc = .ok (.i2b, 1)) (k : EndG p e below Fe Q (T.setTop (mkF m q Ls (.int x.toInt8.toInt32 :: rest)))) : EndG p e below Fe Q (T.setTop (mkF m pc Ls (.int x :: rest))) := by
  subst hq; exact k.st fun t w => XS.i2b X.here hx rfl hd rfl w
theorem k_dup (X : Stand p l e R s m args below meth c T locs cells slots) (hx : p.tables.exec = Jvm.exec) {x : Value} (hq : pc + 1 = q) (hd : decode c.code pc = .ok (.dup, 1)) (hc : x.category = 1) (k : EndG p e below Fe Q (T.setTop (mkF m q Ls (x :: x :: rest)))) : EndG p e below Fe Q (T.setTop (mkF m pc Ls (x :: rest))) := by
  subst hq; exact k.st fun t w => XS.dup X.here hx rfl hd rfl hc w
theorem k_dup_x1 (X : Stand p l e R s m args below meth c T locs cells slots) (hx : p.tables.exec = Jvm.exec) {x y : Value} (hq : pc + 1 = q) (hd : decode c.code pc = .ok (.dup_x1, 1)) (hc : x.category = 1) (hc' : y.category = 1) (k : EndG p e below Fe Q (T.setTop (mkF m q Ls (x :: y :: x :: rest)))) : EndG p e below Fe Q (T.setTop (mkF m pc Ls (x :: y :: rest))) := by
  subst hq; exact k.st fun t w => XS.dupX1 X.here hx rfl hd rfl hc hc' w
theorem k_pop2L (X : Stand p l e R s m args below meth c T locs cells slots) (hx : p.tables.exec = Jvm.exec) {x : Int64} (hq : pc + 1 = q) (hd : decode c.code pc = .ok (.pop2, 1)) (k : EndG p e below Fe Q (T.setTop (mkF m q Ls (rest)))) : EndG p e below Fe Q (T.setTop (mkF m pc Ls (.long x :: rest))) := by
  subst hq; refine k.st fun t w => ?_
  have hd' : decode c.code ({ method := m, pc := pc, locals := Ls, stack := .long x :: rest, locked := none } : JFrame).pc = .ok (.pop2, 1) := hd
  jvm_step X.here [X.here.top, hx, hd', Value.category]
  exact w
theorem k_iinc (X : Stand p l e R s m args below meth c T locs cells slots) (hx : p.tables.exec = Jvm.exec) {j : Nat} {i : Int} {x : Int32} {L' : Array Slot} (hq : pc + 3 = q) (hd : decode c.code pc = .ok (.iinc j i, 3)) (hl : Ls[j]? = some (.val (.int x))) (hl' : storeLocals Ls j (.int (x + Int32.ofInt i)) = some L') (k : EndG p e below Fe Q (T.setTop (mkF m q L' (rest)))) : EndG p e below Fe Q (T.setTop (mkF m pc Ls (rest))) := by
  subst hq; exact k.st fun t w => XS.iinc X.here hx rfl hd hl hl' w
theorem k_goto (X : Stand p l e R s m args below meth c T locs cells slots) (hx : p.tables.exec = Jvm.exec) {o : Int} (ho : 0 ≤ (pc : Int) + o) (hp : ((pc : Int) + o).toNat = q) (hd : decode c.code pc = .ok (.goto o, 3)) (k : EndG p e below Fe Q (T.setTop (mkF m q Ls (rest)))) : EndG p e below Fe Q (T.setTop (mkF m pc Ls (rest))) :=
  k.st fun t w => XS.goto X.here hx rfl (pc0 := pc) (pc' := q) rfl hd ho hp w
theorem k_icmp_eq (X : Stand p l e R s m args below meth c T locs cells slots) (hx : p.tables.exec = Jvm.exec) {x y : Int32} {o : Int} {q1 : Nat} (ho : 0 ≤ (pc : Int) + o) (hp : ((pc : Int) + o).toNat = q1) (hq : pc + 3 = q) (hd : decode c.code pc = .ok (.if_icmp .eq o, 3)) (kt : x = y → EndG p e below Fe Q (T.setTop (mkF m q1 Ls (rest)))) (kf : ¬ x = y → EndG p e below Fe Q (T.setTop (mkF m q Ls (rest)))) : EndG p e below Fe Q (T.setTop (mkF m pc Ls (.int y :: .int x :: rest))) := by
  by_cases h : x = y
  · exact (kt h).st fun t w => XS.icmpYes X.here hx rfl (pc0 := pc) (pc' := q1) rfl hd rfl (XT.ii_eq_t h) ho hp w
  · subst hq; exact (kf h).st fun t w => XS.icmpNo X.here hx rfl hd rfl (XT.ii_eq_f h) w
theorem k_if_eq (X : Stand p l e R s m args below meth c T locs cells slots) (hx : p.tables.exec = Jvm.exec) {x : Int32} {o : Int} {q1 : Nat} (ho : 0 ≤ (pc : Int) + o) (hp : ((pc : Int) + o).toNat = q1) (hq : pc + 3 = q) (hd : decode c.code pc = .ok (.ifCond .eq o, 3)) (kt : x = 0 → EndG p e below Fe Q (T.setTop (mkF m q1 Ls (rest)))) (kf : ¬ x = 0 → EndG p e below Fe Q (T.setTop (mkF m q Ls (rest)))) : EndG p e below Fe Q (T.setTop (mkF m pc Ls (.int x :: rest))) := by
  by_cases h : x = 0
  · exact (kt h).st fun t w => XS.ifYes X.here hx rfl (pc0 := pc) (pc' := q1) rfl hd rfl (XT.i0_eq_t h) ho hp w
  · subst hq; exact (kf h).st fun t w => XS.ifNo X.here hx rfl hd rfl (XT.i0_eq_f h) w
theorem k_icmp_ne (X : Stand p l e R s m args below meth c T locs cells slots) (hx : p.tables.exec = Jvm.exec) {x y : Int32} {o : Int} {q1 : Nat} (ho : 0 ≤ (pc : Int) + o) (hp : ((pc : Int) + o).toNat = q1) (hq : pc + 3 = q) (hd : decode c.code pc = .ok (.if_icmp .ne o, 3)) (kt : ¬ x = y → EndG p e below Fe Q (T.setTop (mkF m q1 Ls (rest)))) (kf : x = y → EndG p e below Fe Q (T.setTop (mkF m q Ls (rest)))) : EndG p e below Fe Q (T.setTop (mkF m pc Ls (.int y :: .int x :: rest))) := by
  by_cases h : x = y
  · subst hq; exact (kf h).st fun t w => XS.icmpNo X.here hx rfl hd rfl (XT.ii_ne_f h) w
  · exact (kt h).st fun t w => XS.icmpYes X.here hx rfl (pc0 := pc) (pc' := q1) rfl hd rfl (XT.ii_ne_t h) ho hp w
theorem k_if_ne (X : Stand p l e R s m args below meth c T locs cells slots) (hx : p.tables.exec = Jvm.exec) {x : Int32} {o : Int} {q1 : Nat} (ho : 0 ≤ (pc : Int) + o) (hp : ((pc : Int) + o).toNat = q1) (hq : pc + 3 = q) (hd : decode c.code pc = .ok (.ifCond .ne o, 3)) (kt : ¬ x = 0 → EndG p e below Fe Q (T.setTop (mkF m q1 Ls (rest)))) (kf : x = 0 → EndG p e below Fe Q (T.setTop (mkF m q Ls (rest)))) : EndG p e below Fe Q (T.setTop (mkF m pc Ls (.int x :: rest))) := by
  by_cases h : x = 0
  · subst hq; exact (kf h).st fun t w => XS.ifNo X.here hx rfl hd rfl (XT.i0_ne_f h) w
  · exact (kt h).st fun t w => XS.ifYes X.here hx rfl (pc0 := pc) (pc' := q1) rfl hd rfl (XT.i0_ne_t h) ho hp w
theorem k_icmp_lt (X : Stand p l e R s m args below meth c T locs cells slots) (hx : p.tables.exec = Jvm.exec) {x y : Int32} {o : Int} {q1 : Nat} (ho : 0 ≤ (pc : Int) + o) (hp : ((pc : Int) + o).toNat = q1) (hq : pc + 3 = q) (hd : decode c.code pc = .ok (.if_icmp .lt o, 3)) (kt : x < y → EndG p e below Fe Q (T.setTop (mkF m q1 Ls (rest)))) (kf : ¬ x < y → EndG p e below Fe Q (T.setTop (mkF m q Ls (rest)))) : EndG p e below Fe Q (T.setTop (mkF m pc Ls (.int y :: .int x :: rest))) := by
  by_cases h : x < y
  · exact (kt h).st fun t w => XS.icmpYes X.here hx rfl (pc0 := pc) (pc' := q1) rfl hd rfl (XT.ii_lt_t h) ho hp w
  · subst hq; exact (kf h).st fun t w => XS.icmpNo X.here hx rfl hd rfl (XT.ii_lt_f h) w
theorem k_if_lt (X : Stand p l e R s m args below meth c T locs cells slots) (hx : p.tables.exec = Jvm.exec) {x : Int32} {o : Int} {q1 : Nat} (ho : 0 ≤ (pc : Int) + o) (hp : ((pc : Int) + o).toNat = q1) (hq : pc + 3 = q) (hd : decode c.code pc = .ok (.ifCond .lt o, 3)) (kt : x < 0 → EndG p e below Fe Q (T.setTop (mkF m q1 Ls (rest)))) (kf : ¬ x < 0 → EndG p e below Fe Q (T.setTop (mkF m q Ls (rest)))) : EndG p e below Fe Q (T.setTop (mkF m pc Ls (.int x :: rest))) := by
  by_cases h : x < 0
  · exact (kt h).st fun t w => XS.ifYes X.here hx rfl (pc0 := pc) (pc' := q1) rfl hd rfl (XT.i0_lt_t h) ho hp w
  · subst hq; exact (kf h).st fun t w => XS.ifNo X.here hx rfl hd rfl (XT.i0_lt_f h) w
theorem k_lcmp_lt (X : Stand p l e R s m args below meth c T locs cells slots) (hx : p.tables.exec = Jvm.exec) {x y : Int64} {o : Int} {q1 : Nat} (ho : 0 ≤ ((pc + 1 : Nat) : Int) + o) (hp : (((pc + 1 : Nat) : Int) + o).toNat = q1) (hq : pc + 1 + 3 = q) (hd0 : decode c.code pc = .ok (.lcmp, 1)) (hd : decode c.code (pc + 1) = .ok (.ifCond .lt o, 3)) (kt : x < y → EndG p e below Fe Q (T.setTop (mkF m q1 Ls (rest)))) (kf : ¬ x < y → EndG p e below Fe Q (T.setTop (mkF m q Ls (rest)))) : EndG p e below Fe Q (T.setTop (mkF m pc Ls (.long y :: .long x :: rest))) := by
  by_cases h : x < y
  · exact (kt h).st fun t w => XT.lcmp X.here hx rfl hd0 rfl <| XS.ifYes X.here hx rfl (pc0 := pc + 1) (pc' := q1) rfl hd rfl (XT.ll_lt_t h) ho hp w
  · subst hq; exact (kf h).st fun t w => XT.lcmp X.here hx rfl hd0 rfl <| XS.ifNo X.here hx rfl hd rfl (XT.ll_lt_f h) w
theorem k_icmp_ge (X : Stand p l e R s m args below meth c T locs cells slots) (hx : p.tables.exec = Jvm.exec) {x y : Int32} {o : Int} {q1 : Nat} (ho : 0 ≤ (pc : Int) + o) (hp : ((pc : Int) + o).toNat = q1) (hq : pc + 3 = q) (hd : decode c.code pc = .ok (.if_icmp .ge o, 3)) (kt : ¬ x < y → EndG p e below Fe Q (T.setTop (mkF m q1 Ls (rest)))) (kf : x < y → EndG p e below Fe Q (T.setTop (mkF m q Ls (rest)))) : EndG p e below Fe Q (T.setTop (mkF m pc Ls (.int y :: .int x :: rest))) := by
  by_cases h : x < y
  · subst hq; exact (kf h).st fun t w => XS.icmpNo X.here hx rfl hd rfl (XT.ii_ge_f h) w
  · exact (kt h).st fun t w => XS.icmpYes X.here hx rfl (pc0 := pc) (pc' := q1) rfl hd rfl (XT.ii_ge_t h) ho hp w
theorem k_lcmp_ge (X : Stand p l e R s m args below meth c T locs cells slots) (hx : p.tables.exec = Jvm.exec) {x y : Int64} {o : Int} {q1 : Nat} (ho : 0 ≤ ((pc + 1 : Nat) : Int) + o) (hp : (((pc + 1 : Nat) : Int) + o).toNat = q1) (hq : pc + 1 + 3 = q) (hd0 : decode c.code pc = .ok (.lcmp, 1)) (hd : decode c.code (pc + 1) = .ok (.ifCond .ge o, 3)) (kt : ¬ x < y → EndG p e below Fe Q (T.setTop (mkF m q1 Ls (rest)))) (kf : x < y → EndG p e below Fe Q (T.setTop (mkF m q Ls (rest)))) : EndG p e below Fe Q (T.setTop (mkF m pc Ls (.long y :: .long x :: rest))) := by
  by_cases h : x < y
  · subst hq; exact (kf h).st fun t w => XT.lcmp X.here hx rfl hd0 rfl <| XS.ifNo X.here hx rfl hd rfl (XT.ll_ge_f h) w
  · exact (kt h).st fun t w => XT.lcmp X.here hx rfl hd0 rfl <| XS.ifYes X.here hx rfl (pc0 := pc + 1) (pc' := q1) rfl hd rfl (XT.ll_ge_t h) ho hp w
theorem k_lcmp_le (X : Stand p l e R s m args below meth c T locs cells slots) (hx : p.tables.exec = Jvm.exec) {x y : Int64} {o : Int} {q1 : Nat} (ho : 0 ≤ ((pc + 1 : Nat) : Int) + o) (hp : (((pc + 1 : Nat) : Int) + o).toNat = q1) (hq : pc + 1 + 3 = q) (hd0 : decode c.code pc = .ok (.lcmp, 1)) (hd : decode c.code (pc + 1) = .ok (.ifCond .le o, 3)) (kt : ¬ y < x → EndG p e below Fe Q (T.setTop (mkF m q1 Ls (rest)))) (kf : y < x → EndG p e below Fe Q (T.setTop (mkF m q Ls (rest)))) : EndG p e below Fe Q (T.setTop (mkF m pc Ls (.long y :: .long x :: rest))) := by
  by_cases h : y < x
  · subst hq; exact (kf h).st fun t w => XT.lcmp X.here hx rfl hd0 rfl <| XS.ifNo X.here hx rfl hd rfl (XT.ll_le_f h) w
  · exact (kt h).st fun t w => XT.lcmp X.here hx rfl hd0 rfl <| XS.ifYes X.here hx rfl (pc0 := pc + 1) (pc' := q1) rfl hd rfl (XT.ll_le_t h) ho hp w
theorem k_tsw_in (X : Stand p l e R s m args below meth c T locs cells slots) (hx : p.tables.exec = Jvm.exec) {dflt low high : Int} {offs : Array Int} {len : Nat} {o : Int} {i : Int32} (hd : decode c.code pc = .ok (.tableswitch dflt low high offs, len)) (hin : ¬ (i.toInt < low ∨ i.toInt > high)) (hoff : offs[(i.toInt - low).toNat]? = some o) (ho : 0 ≤ (pc : Int) + o) (hp : ((pc : Int) + o).toNat = q) (k : EndG p e below Fe Q (T.setTop (mkF m q Ls (rest)))) : EndG p e below Fe Q (T.setTop (mkF m pc Ls (.int i :: rest))) :=
  k.st fun t w => XS.tswIn X.here hx rfl (pc0 := pc) (pc' := q) rfl hd rfl hin hoff ho hp w
theorem k_retN (X : Stand p l e R s m args below meth c T locs cells slots) (hx : p.tables.exec = Jvm.exec) {z : Int32} {t : FieldType} (hlk : meth.locks = false) (hcl : cells ≤ cl) (hsl : slots ≤ sl) (hret : meth.sig.returnType = some t) (ht : t = .boolean ∨ t = .byte ∨ t = .char ∨ t = .short) (hd : decode c.code pc = .ok (.ireturn, 1)) (hQ : Q (some (.int (nar t z))) T.heap locs) : End p e below s Q cl sl (T.setTop (mkF m pc Ls (.int z :: rest))) := by
  obtain ⟨fs, hr, hrun, hended, hW, hsame⟩ := X.leave (v := (some (.int (nar t z)))) (fun h => by rw [hret] at h; cases h) hlk
  refine ⟨_, _, ?_, hrun, hended, _, _, rfl, hQ, ⟨_, rfl⟩, hW, hsame.mono hcl hsl⟩
  exact retN X hx hret ht hd hr
theorem k_retI (X : Stand p l e R s m args below meth c T locs cells slots) (hx : p.tables.exec = Jvm.exec) {z : Int32} (hlk : meth.locks = false) (hcl : cells ≤ cl) (hsl : slots ≤ sl) (hret : meth.sig.returnType = some .int) (hd : decode c.code pc = .ok (.ireturn, 1)) (hQ : Q (some (.int z)) T.heap locs) : End p e below s Q cl sl (T.setTop (mkF m pc Ls (.int z :: rest))) := by
  obtain ⟨fs, hr, hrun, hended, hW, hsame⟩ := X.leave (v := (some (.int z))) (fun h => by rw [hret] at h; cases h) hlk
  refine ⟨_, _, ?_, hrun, hended, _, _, rfl, hQ, ⟨_, rfl⟩, hW, hsame.mono hcl hsl⟩
  exact retOut X hx hret rfl (Or.inl ⟨rfl, Or.inl rfl, _, rfl⟩) hd hr
theorem k_retJ (X : Stand p l e R s m args below meth c T locs cells slots) (hx : p.tables.exec = Jvm.exec) {z : Int64} (hlk : meth.locks = false) (hcl : cells ≤ cl) (hsl : slots ≤ sl) (hret : meth.sig.returnType = some .long) (hd : decode c.code pc = .ok (.lreturn, 1)) (hQ : Q (some (.long z)) T.heap locs) : End p e below s Q cl sl (T.setTop (mkF m pc Ls (.long z :: rest))) := by
  obtain ⟨fs, hr, hrun, hended, hW, hsame⟩ := X.leave (v := (some (.long z))) (fun h => by rw [hret] at h; cases h) hlk
  refine ⟨_, _, ?_, hrun, hended, _, _, rfl, hQ, ⟨_, rfl⟩, hW, hsame.mono hcl hsl⟩
  exact retOut X hx hret rfl (Or.inr (Or.inl ⟨rfl, rfl, _, rfl⟩)) hd hr
theorem k_retV (X : Stand p l e R s m args below meth c T locs cells slots) (hx : p.tables.exec = Jvm.exec)  (hlk : meth.locks = false) (hcl : cells ≤ cl) (hsl : slots ≤ sl) (hret : meth.sig.returnType = none) (hd : decode c.code pc = .ok (.return_, 1)) (hQ : Q none T.heap locs) : End p e below s Q cl sl (T.setTop (mkF m pc Ls ([]))) := by
  obtain ⟨fs, hr, hrun, hended, hW, hsame⟩ := X.leave (v := none) (fun _ => rfl) hlk
  refine ⟨_, _, ?_, hrun, hended, _, _, rfl, hQ, ⟨_, rfl⟩, hW, hsame.mono hcl hsl⟩
  exact X.returnOut hx hret hd hr
variable {Z : State} {a0 : Array Value} {h : Heap}
theorem k_ldcI (X : Stand p l e R s m args below meth c T locs cells slots) (hx : p.tables.exec = Jvm.exec) (hZ : Z.Warmed39 s.vm) {own : String} {index : Nat} {v : Int32} (hown : s.vm.findClass own = some m.cls) (w0 : (Cond.constant own index v).before a0 Z = true) (hq : pc + 2 = q) (hd : decode c.code pc = .ok (.ldc index, 2)) (k : EndG p e below Fe Q (T.setTop (mkF m q Ls (.int v :: rest)))) : EndG p e below Fe Q (T.setTop (mkF m pc Ls (rest))) := by
  subst hq; exact k.st fun t w => X.ldcInt hx hown (mvT hZ w0) (g := (mkF m pc Ls (rest))) rfl hd t w
theorem k_ldc2J (X : Stand p l e R s m args below meth c T locs cells slots) (hx : p.tables.exec = Jvm.exec) (hZ : Z.Warmed39 s.vm) {own : String} {index : Nat} {v : Int64} (hown : s.vm.findClass own = some m.cls) (w0 : (Cond.constantLong own index v).before a0 Z = true) (hq : pc + 3 = q) (hd : decode c.code pc = .ok (.ldc2_w index, 3)) (k : EndG p e below Fe Q (T.setTop (mkF m q Ls (.long v :: rest)))) : EndG p e below Fe Q (T.setTop (mkF m pc Ls (rest))) := by
  subst hq; exact k.st fun t w => X.ldc2Long hx hown (mvT hZ w0) (g := (mkF m pc Ls (rest))) rfl hd t w
theorem k_getF (X : Stand p l e R s m args below meth c T locs cells slots) (hx : p.tables.exec = Jvm.exec) (hZ : Z.Warmed39 s.vm) {own R0 O n d host : String} {index : Nat} (hown : s.vm.findClass own = some m.cls) (w0 : (Cond.fieldLink own index R0 n d).before a0 Z = true ∨ (Cond.fieldLinkNest own index R0 n d host).before a0 Z = true) (via : Via Z R0 O n d) (eT : T.heap = h) {a : Addr} {v : Value} (hq : pc + 3 = q) (hd : decode c.code pc = .ok (.getfield index, 3)) (F : Fld Z h a O n d v) (k : ∀ T', Stand p l e R s m args below meth c T' locs cells slots → T'.heap = h → EndG p e below Fe Q (T'.setTop (mkF m q Ls (v :: rest)))) : EndG p e below Fe Q (T.setTop (mkF m pc Ls (.ref a :: rest))) := by
  subst hq; obtain ⟨T', X', e', st⟩ := getF X hx hZ hown w0 via eT F (g := (mkF m pc Ls (.ref a :: rest))) rfl rfl hd
  exact (k T' X' e').st st
theorem k_putF (X : Stand p l e R s m args below meth c T locs cells slots) (hx : p.tables.exec = Jvm.exec) (hZ : Z.Warmed39 s.vm) {own R0 O n d host C : String} {index kk : Nat} {ty : FieldType} (hown : s.vm.findClass own = some m.cls) (w0 : (Cond.fieldLink own index R0 n d).before a0 Z = true ∨ (Cond.fieldLinkNest own index R0 n d host).before a0 Z = true) (via : Via Z R0 O n d) (eT : T.heap = h) {a : Addr} {v old : Value} (L0 : (Cond.lays C O n d).before a0 Z = true ∨ ((Cond.laysFinal C O n d).before a0 Z = true ∧ own = O ∧ meth.name = "<init>")) (wi : (Cond.instantiable C kk).before a0 Z = true) (hty : parseFieldDescriptor d = some ty) (hn : narrow ty v = v) (hf : fits ty v = true) (hq : pc + 3 = q) (hd : decode c.code pc = .ok (.putfield index, 3)) (F : Fld Z h a O n d old) (E : Exa Z h a C) (k : ∀ T' h', Stand p l e R s m args below meth c T' (locs ++ [⟨a, Jvm.RoadKit.slotOf Z O n d⟩]) cells slots → T'.heap = h' → Wr h h' a (Jvm.RoadKit.slotOf Z O n d) v → EndG p e below Fe Q (T'.setTop (mkF m q Ls (rest)))) : EndG p e below Fe Q (T.setTop (mkF m pc Ls (v :: .ref a :: rest))) := by
  subst hq; obtain ⟨T', h', X', e', W', st⟩ := putF X hx hZ hown w0 via eT F E L0 wi hty hn hf (g := (mkF m pc Ls (v :: .ref a :: rest))) rfl rfl hd
  exact (k T' h' X' e' W').st st
theorem k_new (X : Stand p l e R s m args below meth c T locs cells slots) (hx : p.tables.exec = Jvm.exec) (hZ : Z.Warmed39 s.vm) {own C : String} {index n : Nat} (hown : s.vm.findClass own = some m.cls) (w0 : (Cond.classLink own index C).before a0 Z = true) (wi : (Cond.instantiable C n).before a0 Z = true) (wz : (Cond.initialized C).before a0 Z = true) (eT : T.heap = h) (hq : pc + 3 = q) (hd : decode c.code pc = .ok (.new index, 3)) (hc : cells + 1 ≤ R.cells) (hl : slots + n ≤ R.slots) (k : ∀ T' h' a, Stand p l e R s m args below meth c T' locs (cells + 1) (slots + n) → T'.heap = h' → a = h.size → Ext h h' → Exa Z h' a C → (∀ {O nm d : String} {ty : FieldType}, Laid Z a0 C O nm d → parseFieldDescriptor d = some ty → Fld Z h' a O nm d (defaultValue ty)) → EndG p e below Fe Q (T'.setTop (mkF m q Ls (.ref a :: rest)))) : EndG p e below Fe Q (T.setTop (mkF m pc Ls (rest))) := by
  subst hq; obtain ⟨T', h', X', e', E', A', D', -, st⟩ := newO X hx hZ hown w0 wi wz eT (g := (mkF m pc Ls (rest))) rfl hd hc hl
  exact (k T' h' _ X' e' rfl E' A' D').st st
theorem k_newP (X : Stand p l e R s m args below meth c T locs cells slots) (hx : p.tables.exec = Jvm.exec) (hZ : Z.Warmed39 s.vm) {aty : ArrayType} (w0 : (Cond.arrayClass (newarray.typeOf aty)).before a0 Z = true) (eT : T.heap = h) {n : Int32} (hq : pc + 2 = q) (hd : decode c.code pc = .ok (.newarray aty, 2)) (hn : ¬ n < 0) {cap : Nat} (hcap : n.toNatClampNeg ≤ cap) (hb : cap * 8 ≤ 536870912) (hc : cells + 1 ≤ R.cells) (hl : slots + cap ≤ R.slots) (k : ∀ T' h' a cA, Stand p l e R s m args below meth c T' locs (cells + 1) (slots + cap) → T'.heap = h' → a = h.size → Ext h h' → Arr Z h' a (newA cA (newarray.typeOf aty) n) (newarray.typeOf aty) → EndG p e below Fe Q (T'.setTop (mkF m q Ls (.ref a :: rest)))) : EndG p e below Fe Q (T.setTop (mkF m pc Ls (.int n :: rest))) := by
  subst hq; obtain ⟨T', h', cA, X', e', E', A', st⟩ := newP X hx hZ w0 eT (g := (mkF m pc Ls (.int n :: rest))) rfl hd rfl hn hcap hb hc hl
  exact (k T' h' _ cA X' e' rfl E' A').st st
theorem k_initO (X : Stand p l e R s m args below meth c T locs cells slots) (hx : p.tables.exec = Jvm.exec) (hZ : Z.Warmed39 s.vm) {own : String} {index : Nat} (hown : s.vm.findClass own = some m.cls) (w1 : (Cond.methodLink own index Lib.objectInit).before a0 Z = true) (w2 : (Cond.instanceMethod Lib.objectInit).before a0 Z = true) (w3 : (Cond.code Lib.objectInit ⟨#[0xb1]⟩ 1 none).before a0 Z = true) (eT : T.heap = h) {a : Addr} (hq : pc + 3 = q) (hd : decode c.code pc = .ok (.invokespecial index, 3)) (hls : Ls.size = c.maxLocals) (hf : 1 ≤ R.frames) (W : Nat) (hW : 2 * 0 + (rest.map fun v => v.category).sum ≤ W) (hl : W + 12 ≤ R.locals) (k : ∀ T', Stand p l e R s m args below meth c T' locs cells slots → T'.heap = h → EndG p e below Fe Q (T'.setTop (mkF m q Ls (rest)))) : EndG p e below Fe Q (T.setTop (mkF m pc Ls (.ref a :: rest))) := by
  subst hq; obtain ⟨T', X', e', st⟩ := initO X hx hZ hown w1 w2 w3 eT (g := (mkF m pc Ls (.ref a :: rest))) rfl hls rfl hd hf (W := W) hW hl
  exact (k T' X' e').st st
end Steps
/-- the array at a has n places; the place t holds v t -/
def Ary (Z : State) (h : Heap) (a : Addr) (ty : FieldType) (n : Nat) (v : Nat → Value) : Prop := ∃ c : Cell, Arr Z h a c ty ∧ c.slots.size = n ∧ n < 2 ^ 31 ∧ ∀ t, t < n → c.slots[t]? = some (v t)
/-- g, but x at i -/
def upd {α : Type} (g : Nat → α) (i : Nat) (x : α) : Nat → α := fun t => if t = i then x else g t
theorem upd_same {α : Type} (g : Nat → α) (i : Nat) (x : α) : upd g i x i = x := if_pos rfl
theorem upd_other {α : Type} (g : Nat → α) {i t : Nat} (x : α) (q : t ≠ i) : upd g i x t = g t := if_neg q
section Arys
variable {Z : State} {h h' : Heap} {a b : Addr} {ty : FieldType} {n : Nat} {v w : Nat → Value} {sl : Nat} {x : Value} {ws : List Addr}
theorem Ary.lt (F : Ary Z h a ty n v) : a < h.size := by obtain ⟨c, A, -⟩ := F; exact A.lt
theorem Ary.ext (F : Ary Z h a ty n v) (E : Ext h h') : Ary Z h' a ty n v := by obtain ⟨c, A, r⟩ := F; exact ⟨c, A.ext E, r⟩
theorem Ary.other (F : Ary Z h b ty n v) (W : Wr h h' a sl x) (q : b ≠ a) : Ary Z h' b ty n v := by obtain ⟨c, A, r⟩ := F; exact ⟨c, A.other W q, r⟩
theorem Ary.keep (F : Ary Z h a ty n v) (K : Keep h h' ws) (q : a ∉ ws) : Ary Z h' a ty n v := by obtain ⟨c, A, r⟩ := F; exact ⟨c, ⟨K.2.1 a c A.1 q, A.2⟩, r⟩
theorem Ary.same (F : Ary Z h a ty n v) (W : Wr h h' a sl x) : Ary Z h' a ty n (fun t => if t = sl then x else v t) := by
  obtain ⟨c, A, S, B, H⟩ := F
  refine ⟨_, A.same W, by rw [sz_set, S], B, fun t ht => ?_⟩
  by_cases q : t = sl
  · subst q; simp [Cell.setSlot, S, ht]
  · simp only [if_neg q, Cell.setSlot]; rw [Array.getElem?_setIfInBounds_ne (Ne.symm q)]; exact H t ht
theorem Ary.congr (F : Ary Z h a ty n v) (q : ∀ t, t < n → v t = w t) : Ary Z h a ty n w := by obtain ⟨c, A, S, B, H⟩ := F; exact ⟨c, A, S, B, fun t ht => by rw [H t ht, q t ht]⟩
theorem Ary.new {k : ClassId} {z : Int32} (A : Arr Z h a (newA k ty z) ty) (q : ¬ z < 0) (hn : z.toNatClampNeg = n) : Ary Z h a ty n (fun _ => defaultValue ty) := by
  subst hn; exact ⟨_, A, sz_new _ _ _, (back32 q).2, fun t ht => by simp [newA, ht]⟩
theorem Keep.of_ext (E : Ext h h') : Keep h h' [] := (Keep.refl h []).ext E
def Cls (h : Heap) (a : Addr) (k : ClassId) : Prop := ∃ c : Cell, h[a]? = some c ∧ c.cls = k
theorem Cls.lt {k : ClassId} (F : Cls h a k) : a < h.size := by obtain ⟨c, h1, -⟩ := F; exact (Array.getElem?_eq_some_iff.mp h1).1
theorem Cls.keep {k : ClassId} (F : Cls h a k) (K : Keep h h' ws) : Cls h' a k := by obtain ⟨c, h1, h2⟩ := F; obtain ⟨c', q1, q2, -⟩ := K.2.2 _ _ h1; exact ⟨c', q1, q2.trans h2⟩
theorem Sto.ofA {k : ClassId} {C : String} {y : Addr} (A : Ary Z h a ty n v) (q : Cls h a k) (O : Ovr Z k C) (I : Ins Z h y C true) : Sto Z h a (.ref y) := by
  obtain ⟨c, A, r⟩ := A; obtain ⟨c', q1, q2⟩ := q; cases A.1.symm.trans q1; exact Sto.of A (q2 ▸ O) I
end Arys
theorem acmp_eq_t {a b : Addr} (h : a = b) : XT.acmp .eq (.ref a) (.ref b) = true := by subst h; simp [XT.acmp]
theorem acmp_eq_f {a b : Addr} (h : ¬ a = b) : XT.acmp .eq (.ref a) (.ref b) = false := by simp [XT.acmp, h]
theorem acmp_ne_t {a b : Addr} (h : ¬ a = b) : XT.acmp .ne (.ref a) (.ref b) = true := by simp [XT.acmp, h]
theorem acmp_ne_f {a b : Addr} (h : a = b) : XT.acmp .ne (.ref a) (.ref b) = false := by subst h; simp [XT.acmp]
/-- j names the place i -/
def Ix (j : Int32) (i : Nat) : Prop := ¬ j < 0 ∧ j.toNatClampNeg = i
theorem Ix.in {j : Int32} {i n : Nat} {c : Cell} (q : Ix j i) (S : c.slots.size = n) (hi : i < n) : ¬ (j < 0 ∨ c.slots.size ≤ j.toNatClampNeg) := fun o => o.elim q.1 fun o => by rw [S, q.2] at o; omega
theorem Ix.of {j : Int32} {i : Nat} (q : j.toInt = i) : Ix j i := by
  have h0 : ¬ j < 0 := by rw [Int32.lt_iff_toInt_lt, show (0 : Int32).toInt = 0 from by decide]; omega
  refine ⟨h0, ?_⟩
  have := nat_of h0; omega
theorem Ix.int {j : Int32} {i : Nat} (q : Ix j i) : j.toInt = i := by have := nat_of q.1; rw [q.2] at this; exact this
section Steps
variable {p : Program} {l : Launch} {e : Env} {R : Room} {s : State} {m : MethodId} {args : Array Value} {below : List Frame} {meth : Method} {c : Code} {T : State} {locs : List Loc} {cells slots : Nat} {Fe : Outcome → State → List Loc → Prop} {Q : Option Value → Heap → List Loc → Prop} {cl sl : Nat} {pc q : Nat} {Ls : Array Slot} {rest : List Value}
variable {Z : State} {a0 : Array Value} {h : Heap}
theorem k_arB (X : Stand p l e R s m args below meth c T locs cells slots) (hx : p.tables.exec = Jvm.exec) (hZ : Z.Warmed39 s.vm) (eT : T.heap = h) {a : Addr} {n : Nat} {v : Nat → Value} {j : Int32} {x : Value} (i : Nat) (hq : pc + 1 = q) (hd : decode c.code pc = .ok (.baload, 1)) (A : Ary Z h a .byte n v) (hj : Ix j i) (hi : i < n) (hv : v i = x) (k : EndG p e below Fe Q (T.setTop (mkF m q Ls (x :: rest)))) : EndG p e below Fe Q (T.setTop (mkF m pc Ls (.int j :: .ref a :: rest))) := by
  obtain ⟨ce, A, S, B, H⟩ := A
  subst hq hv; exact k.st fun t w => X.baloadBytes hx (j := j) (v := v i) (by rw [eT]; exact A.1) (State.isArrayOf_alike hZ.alike A.2.1) A.2.2 (hj.in S hi) (by rw [hj.2]; exact H i hi) (g := (mkF m pc Ls (.int j :: .ref a :: rest))) rfl rfl hd t w
theorem k_asB (X : Stand p l e R s m args below meth c T locs cells slots) (hx : p.tables.exec = Jvm.exec) (hZ : Z.Warmed39 s.vm) (eT : T.heap = h) {a : Addr} {n : Nat} {v : Nat → Value} {j : Int32} {x : Int32} (i : Nat) (hq : pc + 1 = q) (hd : decode c.code pc = .ok (.bastore, 1)) (A : Ary Z h a .byte n v) (hj : Ix j i) (hi : i < n) (k : ∀ T' h', Stand p l e R s m args below meth c T' (locs ++ [⟨a, i⟩]) cells slots → T'.heap = h' → Wr h h' a i (.int (nar .byte x)) → Ary Z h' a .byte n (fun t => if t = i then (.int (nar .byte x)) else v t) → EndG p e below Fe Q (T'.setTop (mkF m q Ls (rest)))) : EndG p e below Fe Q (T.setTop (mkF m pc Ls (.int x :: .int j :: .ref a :: rest))) := by
  have A0 := A
  obtain ⟨ce, A, S, B, H⟩ := A
  subst hq; obtain ⟨T', h', X', e', W', st⟩ := stB X hx hZ eT A (hj.in S hi) (g := (mkF m pc Ls (.int x :: .int j :: .ref a :: rest))) rfl rfl hd
  rw [hj.2] at X' W'
  exact (k T' h' X' e' W' (A0.same W')).st st
theorem k_al (X : Stand p l e R s m args below meth c T locs cells slots) (hx : p.tables.exec = Jvm.exec) (hZ : Z.Warmed39 s.vm) (eT : T.heap = h) {a : Addr} {ty : FieldType} {n : Nat} {v : Nat → Value} {z : Int32} (hq : pc + 1 = q) (hd : decode c.code pc = .ok (.arraylength, 1)) (A : Ary Z h a ty n v) (hz : n.toInt32 = z) (k : EndG p e below Fe Q (T.setTop (mkF m q Ls (.int z :: rest)))) : EndG p e below Fe Q (T.setTop (mkF m pc Ls (.ref a :: rest))) := by
  obtain ⟨ce, A, S, B, H⟩ := A
  subst hq hz; exact k.st fun t w => X.arraylength hx (by rw [eT]; exact A.1) (State.isArrayOf_alike hZ.alike A.2.1) (g := (mkF m pc Ls (.ref a :: rest))) rfl rfl hd t (by rw [S]; exact w)
theorem k_callS (X : Stand p l e R s m args below meth c T locs cells slots) (hx : p.tables.exec = Jvm.exec) (hZ : Z.Warmed39 s.vm) {own : String} {index : Nat} {y : MethodName} {bytes : ByteArray} {maxL : Nat} {ret : Option FieldType} {rm : Room} {as : List Value} {Qc : Option Value → Heap → List Loc → Prop} (hown : s.vm.findClass own = some m.cls) (w1 : (Cond.methodLink own index y).before a0 Z = true) (w2 : (Cond.static y).before a0 Z = true) (w3 : (Cond.initialized y.cls).before a0 Z = true) (w4 : (Cond.code y bytes maxL ret).before a0 Z = true) (hy : y.cls ≠ "java/lang/invoke/MethodHandle" ∧ y.cls ≠ "java/lang/invoke/VarHandle") (W : Nat) (eT : T.heap = h) (hM : Con l Z y bytes maxL ret [] rm (as).toArray h Qc) (hf : rm.frames + 1 ≤ R.frames) (hl : W + (maxL + 11) + rm.locals ≤ R.locals) (hcl : cells + rm.cells ≤ R.cells) (hsl : slots + rm.slots ≤ R.slots) (hls : Ls.size = c.maxLocals) {ps : List FieldType} {rt : Option FieldType} (hpd : parseMethodDescriptor y.desc = some ⟨ps, rt⟩) (hlen : as.length = ps.length) (hW : 2 * 0 + (rest.map fun v => v.category).sum ≤ W) (hq : pc + 3 = q) (hd : decode c.code pc = .ok (.invokestatic index, 3)) (k : ∀ v T' L, Stand p l e R s m args below meth c T' (locs ++ L) (cells + rm.cells) (slots + rm.slots) → Qc v T'.heap L → EndG p e below Fe Q (T'.setTop (mkF m q Ls (v.toList ++ rest)))) : EndG p e below Fe Q (T.setTop (mkF m pc Ls (as.reverse ++ rest))) := by
  subst hq
  obtain ⟨v, _, ⟨T', L', k', n'⟩, -, X', ⟨Lc, hQ, l', y', z'⟩, st⟩ := Jvm.LawKit.callS X hx (y := y) hown (mvT hZ w1) (mvT hZ w2) (mvT hZ w3) (mvT hZ w4) hy (backOf (W := W) hM hZ w4 w3 hf hl) (g := (mkF m pc Ls (as.reverse ++ rest))) rfl hls (argsL := as) (rest := rest) (lenOf hpd hlen) rfl hW hd (fun _ _ => ⟨rfl, eT, hcl, hsl⟩)
  dsimp only [Pt.U, Pt.locs, Pt.cells, Pt.slots] at X' l' y' z' st hQ
  subst l' y' z'
  exact (k v T' Lc X' hQ).st st
theorem k_callI (X : Stand p l e R s m args below meth c T locs cells slots) (hx : p.tables.exec = Jvm.exec) (hZ : Z.Warmed39 s.vm) {own : String} {index : Nat} {y : MethodName} {bytes : ByteArray} {maxL : Nat} {rm : Room} {as : List Value} {Qc : Option Value → Heap → List Loc → Prop} {a : Addr} (hown : s.vm.findClass own = some m.cls) (hy1 : y.name = "<init>") (w1 : (Cond.methodLink own index y).before a0 Z = true) (w2 : (Cond.instanceMethod y).before a0 Z = true) (w3 : (Cond.initialized y.cls).before a0 Z = true) (w4 : (Cond.code y bytes maxL none).before a0 Z = true) (hy : y.cls ≠ "java/lang/invoke/MethodHandle" ∧ y.cls ≠ "java/lang/invoke/VarHandle") (W : Nat) (eT : T.heap = h) (hM : Con l Z y bytes maxL none [] rm (.ref a :: as).toArray h Qc) (hf : rm.frames + 1 ≤ R.frames) (hl : W + (maxL + 11) + rm.locals ≤ R.locals) (hcl : cells + rm.cells ≤ R.cells) (hsl : slots + rm.slots ≤ R.slots) (hls : Ls.size = c.maxLocals) {ps : List FieldType} {rt : Option FieldType} (hpd : parseMethodDescriptor y.desc = some ⟨ps, rt⟩) (hlen : as.length = ps.length) (hW : 2 * 0 + (rest.map fun v => v.category).sum ≤ W) (hq : pc + 3 = q) (hd : decode c.code pc = .ok (.invokespecial index, 3)) (k : ∀ v T' L, Stand p l e R s m args below meth c T' (locs ++ L) (cells + rm.cells) (slots + rm.slots) → Qc v T'.heap L → EndG p e below Fe Q (T'.setTop (mkF m q Ls (v.toList ++ rest)))) : EndG p e below Fe Q (T.setTop (mkF m pc Ls (as.reverse ++ .ref a :: rest))) := by
  subst hq
  obtain ⟨v, _, ⟨T', L', k', n'⟩, -, X', ⟨Lc, hQ, l', y', z'⟩, st⟩ := X.specialBack hx (y := y) hy1 hown (mvT hZ w1) (mvT hZ w2) (mvT hZ w4) hy (backOf (W := W) hM hZ w4 w3 hf hl) (g := (mkF m pc Ls (as.reverse ++ .ref a :: rest))) rfl hls (Steps.refl _) (a := a) (argsL := as) (rest := rest) (lenOf hpd hlen) rfl hW hd (fun _ _ => ⟨rfl, eT, hcl, hsl⟩)
  dsimp only [Pt.U, Pt.locs, Pt.cells, Pt.slots] at X' l' y' z' st hQ
  subst l' y' z'
  exact (k v T' Lc X' hQ).tr st
theorem k_callV (X : Stand p l e R s m args below meth c T locs cells slots) (hx : p.tables.exec = Jvm.exec) (hZ : Z.Warmed39 s.vm) {own : String} {index : Nat} {y : MethodName} {bytes : ByteArray} {maxL : Nat} {ret : Option FieldType} {rm : Room} {as : List Value} {Qc : Option Value → Heap → List Loc → Prop} {a : Addr} {C : String} {z : MethodName} (hown : s.vm.findClass own = some m.cls) (w1 : (Cond.methodLink own index y).before a0 Z = true) (w2 : (Cond.declares y).before a0 Z = true) (hnf : NotFace s y) (w3 : (Cond.selects C y z).before a0 Z = true) (w4 : (Cond.instanceMethod z).before a0 Z = true) (w5 : (Cond.code z bytes maxL ret).before a0 Z = true) (w6 : (Cond.initialized z.cls).before a0 Z = true) (hy : y.cls ≠ "java/lang/invoke/MethodHandle" ∧ y.cls ≠ "java/lang/invoke/VarHandle") (Ex : Exa Z h a C) (W : Nat) (eT : T.heap = h) (hM : Con l Z z bytes maxL ret [] rm (.ref a :: as).toArray h Qc) (hf : rm.frames + 1 ≤ R.frames) (hl : W + (maxL + 11) + rm.locals ≤ R.locals) (hcl : cells + rm.cells ≤ R.cells) (hsl : slots + rm.slots ≤ R.slots) (hls : Ls.size = c.maxLocals) {ps : List FieldType} {rt : Option FieldType} (hpd : parseMethodDescriptor y.desc = some ⟨ps, rt⟩) (hlen : as.length = ps.length) (hW : 2 * 0 + (rest.map fun v => v.category).sum ≤ W) (hq : pc + 3 = q) (hd : decode c.code pc = .ok (.invokevirtual index, 3)) (k : ∀ v T' L, Stand p l e R s m args below meth c T' (locs ++ L) (cells + rm.cells) (slots + rm.slots) → Qc v T'.heap L → EndG p e below Fe Q (T'.setTop (mkF m q Ls (v.toList ++ rest)))) : EndG p e below Fe Q (T.setTop (mkF m pc Ls (as.reverse ++ .ref a :: rest))) := by
  subst hq
  obtain ⟨cB, kB, q1, q2, q3⟩ := isOf hZ eT Ex
  obtain ⟨v, _, ⟨T', L', k', n'⟩, -, X', ⟨Lc, hQ, l', y', z'⟩, st⟩ := X.virtualBack hx (y := y) (z := z) hown (mvT hZ w1) (mvT hZ w2) hnf (mvT hZ w3) (mvT hZ w4) hy (backOf (W := W) hM hZ w5 w6 hf hl) q1 q3 (g := (mkF m pc Ls (as.reverse ++ .ref a :: rest))) rfl hls (Steps.refl _) (argsL := as) (rest := rest) (lenOf hpd hlen) rfl hW hd (fun _ _ => ⟨rfl, eT, hcl, hsl⟩)
  dsimp only [Pt.U, Pt.locs, Pt.cells, Pt.slots] at X' l' y' z' st hQ
  subst l' y' z'
  exact (k v T' Lc X' hQ).tr st
theorem k_callP (X : Stand p l e R s m args below meth c T locs cells slots) (hx : p.tables.exec = Jvm.exec) (hZ : Z.Warmed39 s.vm) {own : String} {index : Nat} {y : MethodName} {bytes : ByteArray} {maxL : Nat} {ret : Option FieldType} {rm : Room} {as : List Value} {Qc : Option Value → Heap → List Loc → Prop} {a : Addr} {C : String} {kk : Nat} (hown : s.vm.findClass own = some m.cls) (w1 : (Cond.methodLink own index y).before a0 Z = true) (w2 : (Cond.instanceMethod y).before a0 Z = true) (w3 : (Cond.instantiable y.cls kk).before a0 Z = true) (w4 : (Cond.privateMethod y).before a0 Z = true) (w5 : (Cond.code y bytes maxL ret).before a0 Z = true) (w6 : (Cond.initialized y.cls).before a0 Z = true) (hy : y.cls ≠ "java/lang/invoke/MethodHandle" ∧ y.cls ≠ "java/lang/invoke/VarHandle") (Ex : Exa Z h a C) (W : Nat) (eT : T.heap = h) (hM : Con l Z y bytes maxL ret [] rm (.ref a :: as).toArray h Qc) (hf : rm.frames + 1 ≤ R.frames) (hl : W + (maxL + 11) + rm.locals ≤ R.locals) (hcl : cells + rm.cells ≤ R.cells) (hsl : slots + rm.slots ≤ R.slots) (hls : Ls.size = c.maxLocals) {ps : List FieldType} {rt : Option FieldType} (hpd : parseMethodDescriptor y.desc = some ⟨ps, rt⟩) (hlen : as.length = ps.length) (hW : 2 * 0 + (rest.map fun v => v.category).sum ≤ W) (hq : pc + 3 = q) (hd : decode c.code pc = .ok (.invokevirtual index, 3)) (k : ∀ v T' L, Stand p l e R s m args below meth c T' (locs ++ L) (cells + rm.cells) (slots + rm.slots) → Qc v T'.heap L → EndG p e below Fe Q (T'.setTop (mkF m q Ls (v.toList ++ rest)))) : EndG p e below Fe Q (T.setTop (mkF m pc Ls (as.reverse ++ .ref a :: rest))) := by
  subst hq
  obtain ⟨cq, q1, q2⟩ := Ex.cell
  obtain ⟨cI, kI, hcI, hkI, -, hniab, -, -⟩ := Cond.instantiable_spec (mvT hZ w3 (args := args))
  have hsl0 : (Cond.selects y.cls y y).before args s = true := selects_self_of_private hcI hkI (Bool.or_eq_false_iff.mp hniab).1 (Cond.privateMethod_at (mvP hZ w4 (args := #[]))) (mvT hZ w2) hy
  obtain ⟨v, _, ⟨T', L', k', n'⟩, -, X', ⟨Lc, hQ, l', y', z'⟩, st⟩ := X.privateBack hx (y := y) hown (mvT hZ w1) (mvT hZ w2) hsl0 (Cond.privateMethod_at (mvP hZ w4 (args := #[]))) (mvT hZ w5) hy (backOf (W := W) hM hZ w5 w6 hf hl) (g := (mkF m pc Ls (as.reverse ++ .ref a :: rest))) rfl hls (Steps.refl _) (a := a) (by rw [eT]; exact q1) q2 (argsL := as) (rest := rest) (lenOf hpd hlen) rfl hW hd (fun _ _ => ⟨rfl, eT, hcl, hsl⟩)
  dsimp only [Pt.U, Pt.locs, Pt.cells, Pt.slots] at X' l' y' z' st hQ
  subst l' y' z'
  exact (k v T' Lc X' hQ).tr st
end Steps
end Jvm.OwnK
namespace Jvm.Pilot.@@N@@
open Jvm Jvm.ClassFile Sem Op Lib Jvm.Free Jvm.Stand Jvm.LawKit Jvm.RoadKit Jvm.OwnK Bundle Jvm.Pilot.@@N@@.Jvm.D
theorem pn_0 : plainName "com/example/footwise/footwise/osm/ProtobufNextPinLaw" = true := by first | (simp [plainName, overriddenIn]; done) | decide +kernel
theorem pn_1 : plainName "com/example/footwise/footwise/osm/Protobuf" = true := by first | (simp [plainName, overriddenIn]; done) | decide +kernel
theorem pd_0 : parseMethodDescriptor "(J)V" = some ⟨[.long], none⟩ := by decide +kernel
theorem pd_1 : parseMethodDescriptor "(I)V" = some ⟨[.int], none⟩ := by decide +kernel
theorem pd_2 : parseMethodDescriptor "()J" = some ⟨[], some .long⟩ := by decide +kernel
theorem pd_3 : parseMethodDescriptor "()I" = some ⟨[], some .int⟩ := by decide +kernel
theorem pd_4 : parseMethodDescriptor "([BII)V" = some ⟨[(.array .byte), .int, .int], none⟩ := by decide +kernel
theorem pd_5 : parseMethodDescriptor "(J)I" = some ⟨[.long], some .int⟩ := by decide +kernel
theorem pd_6 : parseMethodDescriptor "(JII)B" = some ⟨[.long, .int, .int], some .byte⟩ := by decide +kernel
theorem pd_7 : parseMethodDescriptor "([B)V" = some ⟨[(.array .byte)], none⟩ := by decide +kernel
theorem pd_8 : parseMethodDescriptor "()Z" = some ⟨[], some .boolean⟩ := by decide +kernel
theorem pd_9 : parseMethodDescriptor "()V" = some ⟨[], none⟩ := by decide +kernel
theorem os7_47_0 {z0 : Value} {z1 : Value} {z3 : Value} {u : Slot} {v : Int32} (h : One u) : storeLocals #[.val z0, .val z1, .second, .val z3, u] 4 (.int v) = some #[.val z0, .val z1, .second, .val z3, .val (.int v)] := by
  rcases h with rfl | ⟨w, rfl, hw⟩
  · rfl
  · cases w <;> first | rfl | (simp [Value.category] at hw)
theorem own_z0 : (0 : Int32).toInt = 0 := by decide
theorem own_nat {k : Nat} (h : k < 2 ^ 31) : Ix k.toInt32 k := Ix.of (len_toInt h)
theorem own_is {j : Int32} {i : Nat} (h : Ix j i) : j = i.toInt32 := Int32.toInt_inj.mp (by
  have e := h.int
  have b := (rng32 j).2
  rw [len_toInt (by omega), e])
theorem own_up {x : Int32} {k : Nat} (q : Ix x k) (hk : k < 2147483000) : Ix (x + 1) (k + 1) := by
  apply Ix.of
  have e := c_iadd x 1
  have b := rng32 (x + 1)
  have i := q.int
  have e1 : (1 : Int32).toInt = 1 := by decide
  rw [e1] at e
  omega
theorem own_lt {j m : Int32} {k n : Nat} (q : Ix j k) (r : Ix m n) : j < m ↔ k < n := by
  have := q.int
  have := r.int
  rw [Int32.lt_iff_toInt_lt]; omega
theorem own_eqi {j m : Int32} {k n : Nat} (q : Ix j k) (r : Ix m n) : j = m ↔ k = n := by
  have := q.int
  have := r.int
  rw [← Int32.toInt_inj]; omega
theorem d1_0 : decode method_3_code 0 = .ok (.lload_n 0, 1) := by decide +kernel
theorem d1_1 : decode method_3_code 1 = .ok (.ldc2_w 9, 3) := by decide +kernel
theorem d1_4 : decode method_3_code 4 = .ok (.lcmp, 1) := by decide +kernel
theorem d1_5 : decode method_3_code 5 = .ok (.ifCond .ge 5, 3) := by decide +kernel
theorem d1_8 : decode method_3_code 8 = .ok (.iconst 1, 1) := by decide +kernel
theorem d1_9 : decode method_3_code 9 = .ok (.ireturn, 1) := by decide +kernel
theorem d1_10 : decode method_3_code 10 = .ok (.lload_n 0, 1) := by decide +kernel
theorem d1_11 : decode method_3_code 11 = .ok (.ldc2_w 11, 3) := by decide +kernel
theorem d1_14 : decode method_3_code 14 = .ok (.lcmp, 1) := by decide +kernel
theorem d1_15 : decode method_3_code 15 = .ok (.ifCond .ge 5, 3) := by decide +kernel
theorem d1_18 : decode method_3_code 18 = .ok (.iconst 2, 1) := by decide +kernel
theorem d1_19 : decode method_3_code 19 = .ok (.ireturn, 1) := by decide +kernel
theorem d1_20 : decode method_3_code 20 = .ok (.lload_n 0, 1) := by decide +kernel
theorem d1_21 : decode method_3_code 21 = .ok (.ldc2_w 13, 3) := by decide +kernel
theorem d1_24 : decode method_3_code 24 = .ok (.lcmp, 1) := by decide +kernel
theorem d1_25 : decode method_3_code 25 = .ok (.ifCond .ge 5, 3) := by decide +kernel
theorem d1_28 : decode method_3_code 28 = .ok (.iconst 3, 1) := by decide +kernel
theorem d1_29 : decode method_3_code 29 = .ok (.ireturn, 1) := by decide +kernel
theorem d1_30 : decode method_3_code 30 = .ok (.lload_n 0, 1) := by decide +kernel
theorem d1_31 : decode method_3_code 31 = .ok (.ldc2_w 15, 3) := by decide +kernel
theorem d1_34 : decode method_3_code 34 = .ok (.lcmp, 1) := by decide +kernel
theorem d1_35 : decode method_3_code 35 = .ok (.ifCond .ge 5, 3) := by decide +kernel
theorem d1_38 : decode method_3_code 38 = .ok (.iconst 4, 1) := by decide +kernel
theorem d1_39 : decode method_3_code 39 = .ok (.ireturn, 1) := by decide +kernel
theorem d1_40 : decode method_3_code 40 = .ok (.iconst 5, 1) := by decide +kernel
theorem d1_41 : decode method_3_code 41 = .ok (.ireturn, 1) := by decide +kernel
theorem ef_1 (m : MethodId) (x0 : Int64) : entryFrame m #[(.long x0)] 2 = mkF m 0 #[.val (.long x0), .second] [] := by first | (simp [entryFrame, mkF, argsToLocals, Value.category]; done) | rfl
def f1 (x0 : Int64) : Int32 := (if x0 < (128 : Int64) then (1 : Int32) else (if x0 < (16384 : Int64) then (2 : Int32) else (if x0 < (2097152 : Int64) then (3 : Int32) else (if x0 < (268435456 : Int64) then (4 : Int32) else (5 : Int32)))))
set_option maxRecDepth 65536 in
set_option maxHeartbeats 40000000 in
theorem rm1 (l : Launch) (Z : State) (a0 : Array Value) (hw : ∀ d ∈ tables_1, d.before a0 Z = true) (x0 : Int64) (h0 : Heap) (n0 : Nat) :
    Con l Z (⟨"com/example/footwise/footwise/osm/ProtobufNextPinLaw", "minLen", "(J)I"⟩ : MethodName) method_3_code 2 (some .int) [] ({ frames := 0, cells := 0, slots := 0, locals := 0 } : Room) #[(.long x0)] h0 (fun v h L => v = some (.int (f1 x0)) ∧ Fr n0 L ∧ h = h0) := by
  refine Con.of (plainFor_of_name pn_0) ?_
  intro p e s m below meth c s₁ X0 hx hby hml hown hnm hret hlk hZ e0
  refine End.cast ?_ (ef_1 m x0)
  have N0 := Fr.nil n0
  refine k_lloadN X0 hx (q := 1) rfl (hb hby d1_0) rfl ?_
  refine k_ldc2J X0 hx hZ (v := (128 : Int64)) hown (hw _ (List.mem_of_getElem? (i := 6) rfl)) (q := 4) rfl (hb hby d1_1) ?_
  refine k_lcmp_ge X0 hx (q1 := 10) (q := 8) (by decide) (by decide) rfl (hb hby d1_4) (hb hby d1_5) (fun hc1 => ?_) (fun hc1 => ?_)
  · refine k_lloadN X0 hx (q := 11) rfl (hb hby d1_10) rfl ?_
    refine k_ldc2J X0 hx hZ (v := (16384 : Int64)) hown (hw _ (List.mem_of_getElem? (i := 71) rfl)) (q := 14) rfl (hb hby d1_11) ?_
    refine k_lcmp_ge X0 hx (q1 := 20) (q := 18) (by decide) (by decide) rfl (hb hby d1_14) (hb hby d1_15) (fun hc2 => ?_) (fun hc2 => ?_)
    · refine k_lloadN X0 hx (q := 21) rfl (hb hby d1_20) rfl ?_
      refine k_ldc2J X0 hx hZ (v := (2097152 : Int64)) hown (hw _ (List.mem_of_getElem? (i := 72) rfl)) (q := 24) rfl (hb hby d1_21) ?_
      refine k_lcmp_ge X0 hx (q1 := 30) (q := 28) (by decide) (by decide) rfl (hb hby d1_24) (hb hby d1_25) (fun hc3 => ?_) (fun hc3 => ?_)
      · refine k_lloadN X0 hx (q := 31) rfl (hb hby d1_30) rfl ?_
        refine k_ldc2J X0 hx hZ (v := (268435456 : Int64)) hown (hw _ (List.mem_of_getElem? (i := 73) rfl)) (q := 34) rfl (hb hby d1_31) ?_
        refine k_lcmp_ge X0 hx (q1 := 40) (q := 38) (by decide) (by decide) rfl (hb hby d1_34) (hb hby d1_35) (fun hc4 => ?_) (fun hc4 => ?_)
        · refine k_iconst X0 hx (v := (5 : Int32)) rfl (q := 41) rfl (hb hby d1_40) ?_
          exact k_retI X0 hx hlk (by decide) (by decide) hret (hb hby d1_41) ⟨retI_eq (((((rfl : f1 x0 = _).trans (if_neg hc1)).trans (if_neg hc2)).trans (if_neg hc3)).trans (if_neg hc4)), N0, e0⟩
        · refine k_iconst X0 hx (v := (4 : Int32)) rfl (q := 39) rfl (hb hby d1_38) ?_
          exact k_retI X0 hx hlk (by decide) (by decide) hret (hb hby d1_39) ⟨retI_eq (((((rfl : f1 x0 = _).trans (if_neg hc1)).trans (if_neg hc2)).trans (if_neg hc3)).trans (if_pos hc4)), N0, e0⟩
      · refine k_iconst X0 hx (v := (3 : Int32)) rfl (q := 29) rfl (hb hby d1_28) ?_
        exact k_retI X0 hx hlk (by decide) (by decide) hret (hb hby d1_29) ⟨retI_eq ((((rfl : f1 x0 = _).trans (if_neg hc1)).trans (if_neg hc2)).trans (if_pos hc3)), N0, e0⟩
    · refine k_iconst X0 hx (v := (2 : Int32)) rfl (q := 19) rfl (hb hby d1_18) ?_
      exact k_retI X0 hx hlk (by decide) (by decide) hret (hb hby d1_19) ⟨retI_eq (((rfl : f1 x0 = _).trans (if_neg hc1)).trans (if_pos hc2)), N0, e0⟩
  · refine k_iconst X0 hx (v := (1 : Int32)) rfl (q := 9) rfl (hb hby d1_8) ?_
    exact k_retI X0 hx hlk (by decide) (by decide) hret (hb hby d1_9) ⟨retI_eq ((rfl : f1 x0 = _).trans (if_pos hc1)), N0, e0⟩
theorem d2_0 : decode method_2_code 0 = .ok (.iload_n 2, 1) := by decide +kernel
theorem d2_1 : decode method_2_code 1 = .ok (.iload_n 3, 1) := by decide +kernel
theorem d2_2 : decode method_2_code 2 = .ok (.if_icmp .lt 5, 3) := by decide +kernel
theorem d2_5 : decode method_2_code 5 = .ok (.iconst 0, 1) := by decide +kernel
theorem d2_6 : decode method_2_code 6 = .ok (.ireturn, 1) := by decide +kernel
theorem d2_7 : decode method_2_code 7 = .ok (.lload_n 0, 1) := by decide +kernel
theorem d2_8 : decode method_2_code 8 = .ok (.bipush 7, 2) := by decide +kernel
theorem d2_10 : decode method_2_code 10 = .ok (.iload_n 2, 1) := by decide +kernel
theorem d2_11 : decode method_2_code 11 = .ok (.imul, 1) := by decide +kernel
theorem d2_12 : decode method_2_code 12 = .ok (.lushr, 1) := by decide +kernel
theorem d2_13 : decode method_2_code 13 = .ok (.ldc2_w 7, 3) := by decide +kernel
theorem d2_16 : decode method_2_code 16 = .ok (.land, 1) := by decide +kernel
theorem d2_17 : decode method_2_code 17 = .ok (.l2i, 1) := by decide +kernel
theorem d2_18 : decode method_2_code 18 = .ok (.istore 4, 2) := by decide +kernel
theorem d2_20 : decode method_2_code 20 = .ok (.iload_n 2, 1) := by decide +kernel
theorem d2_21 : decode method_2_code 21 = .ok (.iload_n 3, 1) := by decide +kernel
theorem d2_22 : decode method_2_code 22 = .ok (.iconst 1, 1) := by decide +kernel
theorem d2_23 : decode method_2_code 23 = .ok (.isub, 1) := by decide +kernel
theorem d2_24 : decode method_2_code 24 = .ok (.if_icmp .ne 7, 3) := by decide +kernel
theorem d2_27 : decode method_2_code 27 = .ok (.iload 4, 2) := by decide +kernel
theorem d2_29 : decode method_2_code 29 = .ok (.i2b, 1) := by decide +kernel
theorem d2_30 : decode method_2_code 30 = .ok (.ireturn, 1) := by decide +kernel
theorem d2_31 : decode method_2_code 31 = .ok (.iload 4, 2) := by decide +kernel
theorem d2_33 : decode method_2_code 33 = .ok (.sipush 128, 3) := by decide +kernel
theorem d2_36 : decode method_2_code 36 = .ok (.ior, 1) := by decide +kernel
theorem d2_37 : decode method_2_code 37 = .ok (.i2b, 1) := by decide +kernel
theorem d2_38 : decode method_2_code 38 = .ok (.ireturn, 1) := by decide +kernel
theorem ef_2 (m : MethodId) (x0 : Int64) (x1 : Int32) (x2 : Int32) : entryFrame m #[(.long x0), (.int x1), (.int x2)] 5 = mkF m 0 #[.val (.long x0), .second, .val (.int x1), .val (.int x2), .unset] [] := by first | (simp [entryFrame, mkF, argsToLocals, Value.category]; done) | rfl
def f2 (x0 : Int64) (x1 : Int32) (x2 : Int32) : Int32 := (if x1 < x2 then (if x1 = (x2 - (1 : Int32)) then (nar .byte (((x0.toUInt64 >>> (((7 : Int32) * x1) &&& 0x3f).toInt64.toUInt64).toInt64) &&& (127 : Int64)).toInt32.toInt8.toInt32) else (nar .byte ((((x0.toUInt64 >>> (((7 : Int32) * x1) &&& 0x3f).toInt64.toUInt64).toInt64) &&& (127 : Int64)).toInt32 ||| (128 : Int32)).toInt8.toInt32)) else (nar .byte (0 : Int32)))
set_option maxRecDepth 65536 in
set_option maxHeartbeats 40000000 in
theorem rm2 (l : Launch) (Z : State) (a0 : Array Value) (hw : ∀ d ∈ tables_1, d.before a0 Z = true) (x0 : Int64) (x1 : Int32) (x2 : Int32) (h0 : Heap) (n0 : Nat) :
    Con l Z (⟨"com/example/footwise/footwise/osm/ProtobufNextPinLaw", "enc", "(JII)B"⟩ : MethodName) method_2_code 5 (some .byte) [] ({ frames := 0, cells := 0, slots := 0, locals := 0 } : Room) #[(.long x0), (.int x1), (.int x2)] h0 (fun v h L => v = some (.int (f2 x0 x1 x2)) ∧ Fr n0 L ∧ h = h0) := by
  refine Con.of (plainFor_of_name pn_0) ?_
  intro p e s m below meth c s₁ X0 hx hby hml hown hnm hret hlk hZ e0
  refine End.cast ?_ (ef_2 m x0 x1 x2)
  have N0 := Fr.nil n0
  refine k_iloadN X0 hx (q := 1) rfl (hb hby d2_0) rfl ?_
  refine k_iloadN X0 hx (q := 2) rfl (hb hby d2_1) rfl ?_
  refine k_icmp_lt X0 hx (q1 := 7) (q := 5) (by decide) (by decide) rfl (hb hby d2_2) (fun hc1 => ?_) (fun hc1 => ?_)
  · refine k_lloadN X0 hx (q := 8) rfl (hb hby d2_7) rfl ?_
    refine k_bipush X0 hx (v := (7 : Int32)) rfl (q := 10) rfl (hb hby d2_8) ?_
    refine k_iloadN X0 hx (q := 11) rfl (hb hby d2_10) rfl ?_
    refine k_imul X0 hx (q := 12) rfl (hb hby d2_11) ?_
    refine k_lushr X0 hx (q := 13) rfl (hb hby d2_12) ?_
    refine k_ldc2J X0 hx hZ (v := (127 : Int64)) hown (hw _ (List.mem_of_getElem? (i := 11) rfl)) (q := 16) rfl (hb hby d2_13) ?_
    refine k_land X0 hx (q := 17) rfl (hb hby d2_16) ?_
    refine k_l2i X0 hx (q := 18) rfl (hb hby d2_17) ?_
    refine k_istore X0 hx (L' := #[.val (.long x0), .second, .val (.int x1), .val (.int x2), .val (.int (((x0.toUInt64 >>> (((7 : Int32) * x1) &&& 0x3f).toInt64.toUInt64).toInt64) &&& (127 : Int64)).toInt32)]) (q := 20) rfl (hb hby d2_18) rfl ?_
    refine k_iloadN X0 hx (q := 21) rfl (hb hby d2_20) rfl ?_
    refine k_iloadN X0 hx (q := 22) rfl (hb hby d2_21) rfl ?_
    refine k_iconst X0 hx (v := (1 : Int32)) rfl (q := 23) rfl (hb hby d2_22) ?_
    refine k_isub X0 hx (q := 24) rfl (hb hby d2_23) ?_
    refine k_icmp_ne X0 hx (q1 := 31) (q := 27) (by decide) (by decide) rfl (hb hby d2_24) (fun hc2 => ?_) (fun hc2 => ?_)
    · refine k_iload X0 hx (q := 33) rfl (hb hby d2_31) rfl ?_
      refine k_sipush X0 hx (v := (128 : Int32)) rfl (q := 36) rfl (hb hby d2_33) ?_
      refine k_ior X0 hx (q := 37) rfl (hb hby d2_36) ?_
      refine k_i2b X0 hx (q := 38) rfl (hb hby d2_37) ?_
      exact k_retN X0 hx (t := .byte) hlk (by decide) (by decide) hret (by simp) (hb hby d2_38) ⟨retI_eq (((rfl : f2 x0 x1 x2 = _).trans (if_pos hc1)).trans (if_neg hc2)), N0, e0⟩
    · refine k_iload X0 hx (q := 29) rfl (hb hby d2_27) rfl ?_
      refine k_i2b X0 hx (q := 30) rfl (hb hby d2_29) ?_
      exact k_retN X0 hx (t := .byte) hlk (by decide) (by decide) hret (by simp) (hb hby d2_30) ⟨retI_eq (((rfl : f2 x0 x1 x2 = _).trans (if_pos hc1)).trans (if_pos hc2)), N0, e0⟩
  · refine k_iconst X0 hx (v := (0 : Int32)) rfl (q := 6) rfl (hb hby d2_5) ?_
    exact k_retN X0 hx (t := .byte) hlk (by decide) (by decide) hret (by simp) (hb hby d2_6) ⟨retI_eq ((rfl : f2 x0 x1 x2 = _).trans (if_neg hc1)), N0, e0⟩
def own_Pb (Z : State) (h : Heap) (a ar : Addr) (ps en fl wt : Int32) : Prop := Exa Z h a "com/example/footwise/footwise/osm/Protobuf" ∧ Fld Z h a "com/example/footwise/footwise/osm/Protobuf" "bytes" "[B" (.ref ar) ∧ Fld Z h a "com/example/footwise/footwise/osm/Protobuf" "position" "I" (.int ps) ∧ Fld Z h a "com/example/footwise/footwise/osm/Protobuf" "end" "I" (.int en) ∧ Fld Z h a "com/example/footwise/footwise/osm/Protobuf" "field" "I" (.int fl) ∧ Fld Z h a "com/example/footwise/footwise/osm/Protobuf" "wireType" "I" (.int wt)
theorem own_Pb_keep {Z : State} {h h' : Heap} {a ar : Addr} {ps en fl wt : Int32} {ws : List Addr} (P : own_Pb Z h a ar ps en fl wt) (K : Keep h h' ws) (q : a ∉ ws) : own_Pb Z h' a ar ps en fl wt := by
  obtain ⟨E, F1, F2, F3, F4, F5⟩ := P
  exact ⟨E.keep K, F1.keep K q, F2.keep K q, F3.keep K q, F4.keep K q, F5.keep K q⟩
def own_raw (g : Nat → Int32) (p : Nat) : Nat → Int64
  | 0 => 0
  | i + 1 => own_raw g p i ||| ((g (p + i) &&& (127 : Int32)).toInt64 <<< (((7 : Int32) * i.toInt32) &&& 0x3f).toInt64)
theorem own_addi {x y : Int32} {a b : Nat} (h1 : Ix x a) (h2 : Ix y b) (hb : a + b < 2147483000) : Ix (x + y) (a + b) := by
  apply Ix.of
  have e := c_iadd x y
  have r := rng32 (x + y)
  have i1 := h1.int
  have i2 := h2.int
  omega
theorem d7_0 : decode prog_23_method_18_code 0 = .ok (.lconst 0, 1) := by decide +kernel
theorem d7_1 : decode prog_23_method_18_code 1 = .ok (.lstore_n 1, 1) := by decide +kernel
theorem d7_2 : decode prog_23_method_18_code 2 = .ok (.iconst 0, 1) := by decide +kernel
theorem d7_3 : decode prog_23_method_18_code 3 = .ok (.istore_n 3, 1) := by decide +kernel
theorem d7_4 : decode prog_23_method_18_code 4 = .ok (.iload_n 3, 1) := by decide +kernel
theorem d7_5 : decode prog_23_method_18_code 5 = .ok (.bipush 10, 2) := by decide +kernel
theorem d7_7 : decode prog_23_method_18_code 7 = .ok (.if_icmp .ge 69, 3) := by decide +kernel
theorem d7_10 : decode prog_23_method_18_code 10 = .ok (.aload_n 0, 1) := by decide +kernel
theorem d7_11 : decode prog_23_method_18_code 11 = .ok (.getfield 16, 3) := by decide +kernel
theorem d7_14 : decode prog_23_method_18_code 14 = .ok (.aload_n 0, 1) := by decide +kernel
theorem d7_15 : decode prog_23_method_18_code 15 = .ok (.getfield 20, 3) := by decide +kernel
theorem d7_18 : decode prog_23_method_18_code 18 = .ok (.if_icmp .lt 13, 3) := by decide +kernel
theorem d7_31 : decode prog_23_method_18_code 31 = .ok (.aload_n 0, 1) := by decide +kernel
theorem d7_32 : decode prog_23_method_18_code 32 = .ok (.getfield 12, 3) := by decide +kernel
theorem d7_35 : decode prog_23_method_18_code 35 = .ok (.aload_n 0, 1) := by decide +kernel
theorem d7_36 : decode prog_23_method_18_code 36 = .ok (.dup, 1) := by decide +kernel
theorem d7_37 : decode prog_23_method_18_code 37 = .ok (.getfield 16, 3) := by decide +kernel
theorem d7_40 : decode prog_23_method_18_code 40 = .ok (.dup_x1, 1) := by decide +kernel
theorem d7_41 : decode prog_23_method_18_code 41 = .ok (.iconst 1, 1) := by decide +kernel
theorem d7_42 : decode prog_23_method_18_code 42 = .ok (.iadd, 1) := by decide +kernel
theorem d7_43 : decode prog_23_method_18_code 43 = .ok (.putfield 16, 3) := by decide +kernel
theorem d7_46 : decode prog_23_method_18_code 46 = .ok (.baload, 1) := by decide +kernel
theorem d7_47 : decode prog_23_method_18_code 47 = .ok (.istore 4, 2) := by decide +kernel
theorem d7_49 : decode prog_23_method_18_code 49 = .ok (.lload_n 1, 1) := by decide +kernel
theorem d7_50 : decode prog_23_method_18_code 50 = .ok (.iload 4, 2) := by decide +kernel
theorem d7_52 : decode prog_23_method_18_code 52 = .ok (.bipush 127, 2) := by decide +kernel
theorem d7_54 : decode prog_23_method_18_code 54 = .ok (.iand, 1) := by decide +kernel
theorem d7_55 : decode prog_23_method_18_code 55 = .ok (.i2l, 1) := by decide +kernel
theorem d7_56 : decode prog_23_method_18_code 56 = .ok (.bipush 7, 2) := by decide +kernel
theorem d7_58 : decode prog_23_method_18_code 58 = .ok (.iload_n 3, 1) := by decide +kernel
theorem d7_59 : decode prog_23_method_18_code 59 = .ok (.imul, 1) := by decide +kernel
theorem d7_60 : decode prog_23_method_18_code 60 = .ok (.lshl, 1) := by decide +kernel
theorem d7_61 : decode prog_23_method_18_code 61 = .ok (.lor, 1) := by decide +kernel
theorem d7_62 : decode prog_23_method_18_code 62 = .ok (.lstore_n 1, 1) := by decide +kernel
theorem d7_63 : decode prog_23_method_18_code 63 = .ok (.iload 4, 2) := by decide +kernel
theorem d7_65 : decode prog_23_method_18_code 65 = .ok (.ifCond .lt 5, 3) := by decide +kernel
theorem d7_68 : decode prog_23_method_18_code 68 = .ok (.lload_n 1, 1) := by decide +kernel
theorem d7_69 : decode prog_23_method_18_code 69 = .ok (.lreturn, 1) := by decide +kernel
theorem d7_70 : decode prog_23_method_18_code 70 = .ok (.iinc 3 1, 3) := by decide +kernel
theorem d7_73 : decode prog_23_method_18_code 73 = .ok (.goto (-69), 3) := by decide +kernel
theorem ef_7 (m : MethodId) (x0 : Addr) : entryFrame m #[(.ref x0)] 5 = mkF m 0 #[.val (.ref x0), .unset, .unset, .unset, .unset] [] := by first | (simp [entryFrame, mkF, argsToLocals, Value.category]; done) | rfl
set_option maxRecDepth 65536 in
set_option maxHeartbeats 40000000 in
theorem rm7 (l : Launch) (Z : State) (a0 : Array Value) (hw : ∀ d ∈ tables_1, d.before a0 Z = true) (x0 : Addr) (h0 : Heap) (n0 : Nat) (ga : n0 ≤ x0) (ar : Addr) (ps en fl wt : Int32) (P : own_Pb Z h0 x0 ar ps en fl wt) (nb : ar ≠ x0) (po E : Nat) (hps : Ix ps po) (hen : Ix en E) (hE : E ≤ 1000) (M : Nat) (hEM : E ≤ M) (g : Nat → Int32) (V : Ary Z h0 ar .byte M (fun t => .int (g t))) (K : Nat) (hK : K < 10) (hneg : ∀ t, t < K → g (po + t) < 0) (hpos : ¬ g (po + K) < 0) (hpK : po + K < E) :
    Con l Z (⟨"com/example/footwise/footwise/osm/Protobuf", "rawVarint", "()J"⟩ : MethodName) prog_23_method_18_code 5 (some .long) [] ({ frames := 0, cells := 0, slots := 0, locals := 0 } : Room) #[(.ref x0)] h0 (fun v h L => v = some (.long (own_raw g po (K + 1))) ∧ Fr n0 L ∧ Keep h0 h [x0] ∧ ∃ ps' : Int32, Ix ps' (po + K + 1) ∧ own_Pb Z h x0 ar ps' en fl wt) := by
  refine Con.of (plainFor_of_name pn_1) ?_
  intro p e s m below meth c s₁ X0 hx hby hml hown hnm hret hlk hZ e0
  refine End.cast ?_ (ef_7 m x0)
  have N0 := Fr.nil n0
  obtain ⟨E0, F1, F2, F3, F4, F5⟩ := P
  have loop : ∀ (d i : Nat) (T : State) (hh : Heap) (lc : List Loc) (r : Int64) (i' q' : Int32) (u : Slot), K - i < d → Stand p l e ({ frames := 0, cells := 0, slots := 0, locals := 0 } : Room) s m #[(.ref x0)] below meth c T lc 0 0 → T.heap = hh → Fr n0 lc → Keep h0 hh [x0] → own_Pb Z hh x0 ar q' en fl wt → Ix q' (po + i) → Ix i' i → i ≤ K → r = own_raw g po i → One u → End p e below s (fun v h L => v = some (.long (own_raw g po (K + 1))) ∧ Fr n0 L ∧ Keep h0 h [x0] ∧ ∃ ps' : Int32, Ix ps' (po + K + 1) ∧ own_Pb Z h x0 ar ps' en fl wt) 0 0 (T.setTop (mkF m 4 #[.val (.ref x0), .val (.long r), .second, .val (.int i'), u] [])) := by
    intro d
    induction d with
    | zero => intro i T hh lc r i' q' u h; omega
    | succ d ih =>
      intro i T hh lc r i' q' u hd X eT NT KT P hq hi hle hr hu
      obtain ⟨E1, G1, G2, G3, G4, G5⟩ := P
      have Vh := V.keep KT (ninS nb nin0)
      refine k_iloadN X hx (q := 5) rfl (hb hby d7_4) rfl ?_
      refine k_bipush X hx (v := (10 : Int32)) rfl (q := 7) rfl (hb hby d7_5) ?_
      refine k_icmp_ge X hx (q1 := 76) (q := 10) (by decide) (by decide) rfl (hb hby d7_7) (fun hc => absurd ((own_lt (k := i) (n := 10) hi ⟨by decide, by decide⟩).mpr (by omega)) hc) (fun _ => ?_)
      refine k_aloadN X hx (q := 11) rfl (hb hby d7_10) rfl rfl ?_
      refine k_getF X hx hZ (host := "") hown (Or.inl (hw _ (List.mem_of_getElem? (i := 26) rfl))) Via.refl eT (q := 14) rfl (hb hby d7_11) G2 ?_
      intro T2 X2 e2
      refine k_aloadN X2 hx (q := 15) rfl (hb hby d7_14) rfl rfl ?_
      refine k_getF X2 hx hZ (host := "") hown (Or.inl (hw _ (List.mem_of_getElem? (i := 28) rfl))) Via.refl e2 (q := 18) rfl (hb hby d7_15) G3 ?_
      intro T3 X3 e3
      refine k_icmp_lt X3 hx (q1 := 31) (q := 21) (by decide) (by decide) rfl (hb hby d7_18) (fun _ => ?_) (fun hc => absurd ((own_lt hq hen).mpr (by omega)) hc)
      refine k_aloadN X3 hx (q := 32) rfl (hb hby d7_31) rfl rfl ?_
      refine k_getF X3 hx hZ (host := "") hown (Or.inl (hw _ (List.mem_of_getElem? (i := 24) rfl))) Via.refl e3 (q := 35) rfl (hb hby d7_32) G1 ?_
      intro T5 X5 e5
      refine k_aloadN X5 hx (q := 36) rfl (hb hby d7_35) rfl rfl ?_
      refine k_dup X5 hx (q := 37) rfl (hb hby d7_36) rfl ?_
      refine k_getF X5 hx hZ (host := "") hown (Or.inl (hw _ (List.mem_of_getElem? (i := 26) rfl))) Via.refl e5 (q := 40) rfl (hb hby d7_37) G2 ?_
      intro T6 X6 e6
      refine k_dup_x1 X6 hx (q := 41) rfl (hb hby d7_40) rfl rfl ?_
      refine k_iconst X6 hx (v := (1 : Int32)) rfl (q := 42) rfl (hb hby d7_41) ?_
      refine k_iadd X6 hx (q := 43) rfl (hb hby d7_42) ?_
      refine k_putF X6 hx hZ (host := "") hown (Or.inl (hw _ (List.mem_of_getElem? (i := 26) rfl))) Via.refl e6 (Or.inl (hw _ (List.mem_of_getElem? (i := 27) rfl))) (hw _ (List.mem_of_getElem? (i := 13) rfl)) (ty := .int) (by decide) rfl rfl (q := 46) rfl (hb hby d7_43) G2 E1 ?_
      intro T7 h7 X7 e7 W7
      have K7 := Keep.of_wr W7
      have N7 := Fr.snoc X7 NT ga
      have Fw7 := (G2).same W7
      have G8 := (Vh.keep K7 (ninS nb nin0))
      refine k_arB X7 hx hZ e7 (x := (.int (g (po + i)))) (po + i) (q := 47) rfl (hb hby d7_46) G8 hq (by omega) rfl ?_
      refine k_istore X7 hx (L' := #[.val (.ref x0), .val (.long r), .second, .val (.int i'), .val (.int (g (po + i)))]) (q := 49) rfl (hb hby d7_47) (os7_47_0 hu) ?_
      refine k_lloadN X7 hx (q := 50) rfl (hb hby d7_49) rfl ?_
      refine k_iload X7 hx (q := 52) rfl (hb hby d7_50) rfl ?_
      refine k_bipush X7 hx (v := (127 : Int32)) rfl (q := 54) rfl (hb hby d7_52) ?_
      refine k_iand X7 hx (q := 55) rfl (hb hby d7_54) ?_
      refine k_i2l X7 hx (q := 56) rfl (hb hby d7_55) ?_
      refine k_bipush X7 hx (v := (7 : Int32)) rfl (q := 58) rfl (hb hby d7_56) ?_
      refine k_iloadN X7 hx (q := 59) rfl (hb hby d7_58) rfl ?_
      refine k_imul X7 hx (q := 60) rfl (hb hby d7_59) ?_
      refine k_lshl X7 hx (q := 61) rfl (hb hby d7_60) ?_
      refine k_lor X7 hx (q := 62) rfl (hb hby d7_61) ?_
      refine k_lstoreN X7 hx (L' := #[.val (.ref x0), .val (.long (r ||| (((g (po + i)) &&& (127 : Int32)).toInt64 <<< (((7 : Int32) * i') &&& 0x3f).toInt64))), .second, .val (.int i'), .val (.int (g (po + i)))]) (q := 63) rfl (hb hby d7_62) rfl ?_
      refine k_iload X7 hx (q := 65) rfl (hb hby d7_63) rfl ?_
      have hr2 : r ||| ((g (po + i) &&& (127 : Int32)).toInt64 <<< (((7 : Int32) * i') &&& 0x3f).toInt64) = own_raw g po (i + 1) := by rw [own_is hi, hr]; rfl
      rw [hr2]
      show End _ _ _ _ _ _ _ (T7.setTop (mkF m 65 #[.val (.ref x0), .val (.long (own_raw g po (i + 1))), .second, .val (.int i'), .val (.int (g (po + i)))] [(.int (g (po + i)))]))
      by_cases hiK : i = K
      · refine k_if_lt X7 hx (q1 := 70) (q := 68) (by decide) (by decide) rfl (hb hby d7_65) (fun hc => absurd hc (by rw [hiK]; exact hpos)) (fun _ => ?_)
        refine k_lloadN X7 hx (q := 69) rfl (hb hby d7_68) rfl ?_
        have G10 := (E1.keep K7)
        have G11 := (G1.other W7 (Or.inr (slot_ne (t := (.array .byte)) (t' := .int) (Or.inr (hw _ (List.mem_of_getElem? (i := 25) rfl))) (Or.inl (hw _ (List.mem_of_getElem? (i := 27) rfl))) (by decide) (by decide) (by decide))))
        have G12 := (G3.other W7 (Or.inr (slot_ne (t := .int) (t' := .int) (Or.inr (hw _ (List.mem_of_getElem? (i := 29) rfl))) (Or.inl (hw _ (List.mem_of_getElem? (i := 27) rfl))) (by decide) (by decide) (by decide))))
        have G13 := (G4.other W7 (Or.inr (slot_ne (t := .int) (t' := .int) (Or.inl (hw _ (List.mem_of_getElem? (i := 41) rfl))) (Or.inl (hw _ (List.mem_of_getElem? (i := 27) rfl))) (by decide) (by decide) (by decide))))
        have G14 := (G5.other W7 (Or.inr (slot_ne (t := .int) (t' := .int) (Or.inl (hw _ (List.mem_of_getElem? (i := 44) rfl))) (Or.inl (hw _ (List.mem_of_getElem? (i := 27) rfl))) (by decide) (by decide) (by decide))))
        exact k_retJ X7 hx hlk (by decide) (by decide) hret (hb hby d7_69) ⟨by rw [hiK], N7, by rw [e7]; exact (Keep.trans KT K7 (allS (Or.inl (List.mem_of_getElem? (i := 0) rfl)) all0)), _, by rw [← hiK]; exact own_up hq (by omega), by rw [e7]; exact ⟨G10, G11, Fw7, G12, G13, G14⟩⟩
      · refine k_if_lt X7 hx (q1 := 70) (q := 68) (by decide) (by decide) rfl (hb hby d7_65) (fun _ => ?_) (fun hc => absurd (hneg i (by omega)) hc)
        refine k_iinc X7 hx (L' := #[.val (.ref x0), .val (.long (own_raw g po (i + 1))), .second, .val (.int (i' + (1 : Int32))), .val (.int (g (po + i)))]) (q := 73) rfl (hb hby d7_70) rfl rfl ?_
        refine k_goto X7 hx (q := 4) (by decide) (by decide) (hb hby d7_73) ?_
        have G16 := (E1.keep K7)
        have G17 := (G1.other W7 (Or.inr (slot_ne (t := (.array .byte)) (t' := .int) (Or.inr (hw _ (List.mem_of_getElem? (i := 25) rfl))) (Or.inl (hw _ (List.mem_of_getElem? (i := 27) rfl))) (by decide) (by decide) (by decide))))
        have G18 := (G3.other W7 (Or.inr (slot_ne (t := .int) (t' := .int) (Or.inr (hw _ (List.mem_of_getElem? (i := 29) rfl))) (Or.inl (hw _ (List.mem_of_getElem? (i := 27) rfl))) (by decide) (by decide) (by decide))))
        have G19 := (G4.other W7 (Or.inr (slot_ne (t := .int) (t' := .int) (Or.inl (hw _ (List.mem_of_getElem? (i := 41) rfl))) (Or.inl (hw _ (List.mem_of_getElem? (i := 27) rfl))) (by decide) (by decide) (by decide))))
        have G20 := (G5.other W7 (Or.inr (slot_ne (t := .int) (t' := .int) (Or.inl (hw _ (List.mem_of_getElem? (i := 44) rfl))) (Or.inl (hw _ (List.mem_of_getElem? (i := 27) rfl))) (by decide) (by decide) (by decide))))
        exact ih (i + 1) _ _ _ _ _ _ _ (by omega) X7 e7 N7 (Keep.trans KT K7 (allS (Or.inl (List.mem_of_getElem? (i := 0) rfl)) all0)) ⟨G16, G17, Fw7, G18, G19, G20⟩ (show Ix _ (po + (i + 1)) from own_up (k := po + i) hq (by omega)) (own_up hi (by omega)) (by omega) rfl (One.val rfl)
  refine k_lconst X0 hx (v := (0 : Int64)) rfl (q := 1) rfl (hb hby d7_0) ?_
  refine k_lstoreN X0 hx (L' := #[.val (.ref x0), .val (.long (0 : Int64)), .second, .unset, .unset]) (q := 2) rfl (hb hby d7_1) rfl ?_
  refine k_iconst X0 hx (v := (0 : Int32)) rfl (q := 3) rfl (hb hby d7_2) ?_
  refine k_istoreN X0 hx (L' := #[.val (.ref x0), .val (.long (0 : Int64)), .second, .val (.int (0 : Int32)), .unset]) (q := 4) rfl (hb hby d7_3) rfl ?_
  exact loop (K + 1) 0 _ _ _ _ _ _ _ (by omega) X0 e0 N0 (Keep.refl h0 [x0]) ⟨E0, F1, F2, F3, F4, F5⟩ hps ⟨by decide, by decide⟩ (by omega) rfl One.u
theorem own_left {ps en : Int32} {x : Int64} {p E k : Nat} (h1 : Ix ps p) (h2 : Ix en E) (hk : x.toInt = (k : Int)) (h : p + k ≤ E) : ¬ x < (0 : Int64) ∧ ¬ (en - ps).toInt64 < x := by
  have i1 := h1.int
  have i2 := h2.int
  have e := c_isub en ps
  have r := rng32 (en - ps)
  have e2 := c_i2l (en - ps)
  have z : (0 : Int64).toInt = 0 := by decide
  have r2 := rng32 en
  rw [Int64.lt_iff_toInt_lt, Int64.lt_iff_toInt_lt]
  constructor <;> omega
theorem d11_0 : decode prog_23_method_17_code 0 = .ok (.lload_n 1, 1) := by decide +kernel
theorem d11_1 : decode prog_23_method_17_code 1 = .ok (.lconst 0, 1) := by decide +kernel
theorem d11_2 : decode prog_23_method_17_code 2 = .ok (.lcmp, 1) := by decide +kernel
theorem d11_3 : decode prog_23_method_17_code 3 = .ok (.ifCond .lt 18, 3) := by decide +kernel
theorem d11_6 : decode prog_23_method_17_code 6 = .ok (.lload_n 1, 1) := by decide +kernel
theorem d11_7 : decode prog_23_method_17_code 7 = .ok (.aload_n 0, 1) := by decide +kernel
theorem d11_8 : decode prog_23_method_17_code 8 = .ok (.getfield 20, 3) := by decide +kernel
theorem d11_11 : decode prog_23_method_17_code 11 = .ok (.aload_n 0, 1) := by decide +kernel
theorem d11_12 : decode prog_23_method_17_code 12 = .ok (.getfield 16, 3) := by decide +kernel
theorem d11_15 : decode prog_23_method_17_code 15 = .ok (.isub, 1) := by decide +kernel
theorem d11_16 : decode prog_23_method_17_code 16 = .ok (.i2l, 1) := by decide +kernel
theorem d11_17 : decode prog_23_method_17_code 17 = .ok (.lcmp, 1) := by decide +kernel
theorem d11_18 : decode prog_23_method_17_code 18 = .ok (.ifCond .le 20, 3) := by decide +kernel
theorem d11_38 : decode prog_23_method_17_code 38 = .ok (.return_, 1) := by decide +kernel
theorem ef_11 (m : MethodId) (x0 : Addr) (x1 : Int64) : entryFrame m #[(.ref x0), (.long x1)] 3 = mkF m 0 #[.val (.ref x0), .val (.long x1), .second] [] := by first | (simp [entryFrame, mkF, argsToLocals, Value.category]; done) | rfl
set_option maxRecDepth 65536 in
set_option maxHeartbeats 40000000 in
theorem rm11 (l : Launch) (Z : State) (a0 : Array Value) (hw : ∀ d ∈ tables_1, d.before a0 Z = true) (x0 : Addr) (x1 : Int64) (h0 : Heap) (n0 : Nat) (ga : n0 ≤ x0) (ar : Addr) (ps en fl wt : Int32) (P : own_Pb Z h0 x0 ar ps en fl wt) (nb : ar ≠ x0) (po E : Nat) (hps : Ix ps po) (hen : Ix en E) (hE : E ≤ 1000) (k : Nat) (hk : x1.toInt = (k : Int)) (hle : po + k ≤ E) :
    Con l Z (⟨"com/example/footwise/footwise/osm/Protobuf", "requireLeft", "(J)V"⟩ : MethodName) prog_23_method_17_code 3 none [] ({ frames := 0, cells := 0, slots := 0, locals := 0 } : Room) #[(.ref x0), (.long x1)] h0 (fun v h L => v = none ∧ Fr n0 L ∧ h = h0) := by
  refine Con.of (plainFor_of_name pn_1) ?_
  intro p e s m below meth c s₁ X0 hx hby hml hown hnm hret hlk hZ e0
  refine End.cast ?_ (ef_11 m x0 x1)
  have N0 := Fr.nil n0
  obtain ⟨E0, F1, F2, F3, F4, F5⟩ := P
  obtain ⟨hl1, hl2⟩ := own_left hps hen hk hle
  refine k_lloadN X0 hx (q := 1) rfl (hb hby d11_0) rfl ?_
  refine k_lconst X0 hx (v := (0 : Int64)) rfl (q := 2) rfl (hb hby d11_1) ?_
  refine k_lcmp_lt X0 hx (q1 := 21) (q := 6) (by decide) (by decide) rfl (hb hby d11_2) (hb hby d11_3) (fun hc => absurd hc hl1) (fun _ => ?_)
  refine k_lloadN X0 hx (q := 7) rfl (hb hby d11_6) rfl ?_
  refine k_aloadN X0 hx (q := 8) rfl (hb hby d11_7) rfl rfl ?_
  refine k_getF X0 hx hZ (host := "") hown (Or.inl (hw _ (List.mem_of_getElem? (i := 28) rfl))) Via.refl e0 (q := 11) rfl (hb hby d11_8) F3 ?_
  intro T2 X2 e2
  refine k_aloadN X2 hx (q := 12) rfl (hb hby d11_11) rfl rfl ?_
  refine k_getF X2 hx hZ (host := "") hown (Or.inl (hw _ (List.mem_of_getElem? (i := 26) rfl))) Via.refl e2 (q := 15) rfl (hb hby d11_12) F2 ?_
  intro T3 X3 e3
  refine k_isub X3 hx (q := 16) rfl (hb hby d11_15) ?_
  refine k_i2l X3 hx (q := 17) rfl (hb hby d11_16) ?_
  refine k_lcmp_le X3 hx (q1 := 38) (q := 21) (by decide) (by decide) rfl (hb hby d11_17) (hb hby d11_18) (fun _ => ?_) (fun hc => absurd hc hl2)
  exact k_retV X3 hx hlk (by decide) (by decide) hret (hb hby d11_38) ⟨rfl, N0, e3⟩
theorem d10_0 : decode prog_23_method_16_code 0 = .ok (.aload_n 0, 1) := by decide +kernel
theorem d10_1 : decode prog_23_method_16_code 1 = .ok (.iload_n 1, 1) := by decide +kernel
theorem d10_2 : decode prog_23_method_16_code 2 = .ok (.i2l, 1) := by decide +kernel
theorem d10_3 : decode prog_23_method_16_code 3 = .ok (.invokevirtual 101, 3) := by decide +kernel
theorem d10_6 : decode prog_23_method_16_code 6 = .ok (.aload_n 0, 1) := by decide +kernel
theorem d10_7 : decode prog_23_method_16_code 7 = .ok (.dup, 1) := by decide +kernel
theorem d10_8 : decode prog_23_method_16_code 8 = .ok (.getfield 16, 3) := by decide +kernel
theorem d10_11 : decode prog_23_method_16_code 11 = .ok (.iload_n 1, 1) := by decide +kernel
theorem d10_12 : decode prog_23_method_16_code 12 = .ok (.iadd, 1) := by decide +kernel
theorem d10_13 : decode prog_23_method_16_code 13 = .ok (.putfield 16, 3) := by decide +kernel
theorem d10_16 : decode prog_23_method_16_code 16 = .ok (.return_, 1) := by decide +kernel
theorem ef_10 (m : MethodId) (x0 : Addr) (x1 : Int32) : entryFrame m #[(.ref x0), (.int x1)] 2 = mkF m 0 #[.val (.ref x0), .val (.int x1)] [] := by first | (simp [entryFrame, mkF, argsToLocals, Value.category]; done) | rfl
set_option maxRecDepth 65536 in
set_option maxHeartbeats 40000000 in
theorem rm10 (l : Launch) (Z : State) (a0 : Array Value) (hw : ∀ d ∈ tables_1, d.before a0 Z = true) (x0 : Addr) (x1 : Int32) (h0 : Heap) (n0 : Nat) (ga : n0 ≤ x0) (ar : Addr) (ps en fl wt : Int32) (P : own_Pb Z h0 x0 ar ps en fl wt) (nb : ar ≠ x0) (po E : Nat) (hps : Ix ps po) (hen : Ix en E) (hE : E ≤ 1000) (k : Nat) (hk : Ix x1 k) (hle : po + k ≤ E) :
    Con l Z (⟨"com/example/footwise/footwise/osm/Protobuf", "advance", "(I)V"⟩ : MethodName) prog_23_method_16_code 2 none [] ({ frames := 1, cells := 0, slots := 0, locals := 14 } : Room) #[(.ref x0), (.int x1)] h0 (fun v h L => v = none ∧ Fr n0 L ∧ Keep h0 h [x0] ∧ ∃ ps' : Int32, Ix ps' (po + k) ∧ own_Pb Z h x0 ar ps' en fl wt) := by
  refine Con.of (plainFor_of_name pn_1) ?_
  intro p e s m below meth c s₁ X0 hx hby hml hown hnm hret hlk hZ e0
  refine End.cast ?_ (ef_10 m x0 x1)
  have N0 := Fr.nil n0
  have P0 := P
  obtain ⟨E0, F1, F2, F3, F4, F5⟩ := P
  refine k_aloadN X0 hx (q := 1) rfl (hb hby d10_0) rfl rfl ?_
  refine k_iloadN X0 hx (q := 2) rfl (hb hby d10_1) rfl ?_
  refine k_i2l X0 hx (q := 3) rfl (hb hby d10_2) ?_
  refine k_callP X0 hx hZ (y := (⟨"com/example/footwise/footwise/osm/Protobuf", "requireLeft", "(J)V"⟩ : MethodName)) hown (hw _ (List.mem_of_getElem? (i := 59) rfl)) (hw _ (List.mem_of_getElem? (i := 60) rfl)) (hw _ (List.mem_of_getElem? (i := 13) rfl)) (hw _ (List.mem_of_getElem? (i := 61) rfl)) (hw _ (List.mem_of_getElem? (i := 62) rfl)) (hw _ (List.mem_of_getElem? (i := 14) rfl)) (by decide) E0 0 e0 (rm11 l Z a0 hw x0 x1.toInt64 h0 n0 ga ar ps en fl wt P0 nb po E hps hen hE k (by rw [c_i2l, hk.int]) hle) (by decide) (by decide) (by decide) (by decide) (by rw [hml]; rfl) (a := x0) (as := [(.long x1.toInt64)]) (rest := []) pd_0 rfl (by first | exact Nat.le_refl _ | simp [Value.category]) (q := 6) rfl (hb hby d10_3) ?_
  rintro _ T1 L1 X1 ⟨rfl, N1q, e1⟩
  have N1 := Fr.app N0 N1q
  show End _ _ _ _ _ _ _ (T1.setTop (mkF m 6 #[.val (.ref x0), .val (.int x1)] []))
  refine k_aloadN X1 hx (q := 7) rfl (hb hby d10_6) rfl rfl ?_
  refine k_dup X1 hx (q := 8) rfl (hb hby d10_7) rfl ?_
  refine k_getF X1 hx hZ (host := "") hown (Or.inl (hw _ (List.mem_of_getElem? (i := 26) rfl))) Via.refl e1 (q := 11) rfl (hb hby d10_8) F2 ?_
  intro T2 X2 e2
  refine k_iloadN X2 hx (q := 12) rfl (hb hby d10_11) rfl ?_
  refine k_iadd X2 hx (q := 13) rfl (hb hby d10_12) ?_
  refine k_putF X2 hx hZ (host := "") hown (Or.inl (hw _ (List.mem_of_getElem? (i := 26) rfl))) Via.refl e2 (Or.inl (hw _ (List.mem_of_getElem? (i := 27) rfl))) (hw _ (List.mem_of_getElem? (i := 13) rfl)) (ty := .int) (by decide) rfl rfl (q := 16) rfl (hb hby d10_13) F2 E0 ?_
  intro T3 h3 X3 e3 W3
  have K3 := Keep.of_wr W3
  have N3 := Fr.snoc X3 N1 ga
  have Fw3 := (F2).same W3
  have Kp4 : Keep h0 h3 [x0] := Keep.trans (Keep.refl h0 [x0]) K3 (allS (Or.inl (List.mem_of_getElem? (i := 0) rfl)) all0)
  have G5 := (E0.keep K3)
  have G6 := (F1.other W3 (Or.inr (slot_ne (t := (.array .byte)) (t' := .int) (Or.inr (hw _ (List.mem_of_getElem? (i := 25) rfl))) (Or.inl (hw _ (List.mem_of_getElem? (i := 27) rfl))) (by decide) (by decide) (by decide))))
  have G7 := (F3.other W3 (Or.inr (slot_ne (t := .int) (t' := .int) (Or.inr (hw _ (List.mem_of_getElem? (i := 29) rfl))) (Or.inl (hw _ (List.mem_of_getElem? (i := 27) rfl))) (by decide) (by decide) (by decide))))
  have G8 := (F4.other W3 (Or.inr (slot_ne (t := .int) (t' := .int) (Or.inl (hw _ (List.mem_of_getElem? (i := 41) rfl))) (Or.inl (hw _ (List.mem_of_getElem? (i := 27) rfl))) (by decide) (by decide) (by decide))))
  have G9 := (F5.other W3 (Or.inr (slot_ne (t := .int) (t' := .int) (Or.inl (hw _ (List.mem_of_getElem? (i := 44) rfl))) (Or.inl (hw _ (List.mem_of_getElem? (i := 27) rfl))) (by decide) (by decide) (by decide))))
  exact k_retV X3 hx hlk (by decide) (by decide) hret (hb hby d10_16) ⟨rfl, N3, by rw [e3]; exact Kp4, _, own_addi hps hk (by omega), by rw [e3]; exact ⟨G5, G6, Fw3, G7, G8, G9⟩⟩
theorem d13_0 : decode prog_23_method_14_code 0 = .ok (.aload_n 0, 1) := by decide +kernel
theorem d13_1 : decode prog_23_method_14_code 1 = .ok (.getfield 43, 3) := by decide +kernel
theorem d13_4 : decode prog_23_method_14_code 4 = .ok (.iload_n 1, 1) := by decide +kernel
theorem d13_5 : decode prog_23_method_14_code 5 = .ok (.if_icmp .eq 25, 3) := by decide +kernel
theorem d13_30 : decode prog_23_method_14_code 30 = .ok (.return_, 1) := by decide +kernel
theorem ef_13 (m : MethodId) (x0 : Addr) (x1 : Int32) : entryFrame m #[(.ref x0), (.int x1)] 2 = mkF m 0 #[.val (.ref x0), .val (.int x1)] [] := by first | (simp [entryFrame, mkF, argsToLocals, Value.category]; done) | rfl
set_option maxRecDepth 65536 in
set_option maxHeartbeats 40000000 in
theorem rm13 (l : Launch) (Z : State) (a0 : Array Value) (hw : ∀ d ∈ tables_1, d.before a0 Z = true) (x0 : Addr) (x1 : Int32) (h0 : Heap) (n0 : Nat) (ga : n0 ≤ x0) (ar : Addr) (ps en fl wt : Int32) (P : own_Pb Z h0 x0 ar ps en fl wt) (nb : ar ≠ x0) (po E : Nat) (hps : Ix ps po) (hen : Ix en E) (hE : E ≤ 1000) (hwt : wt = x1) :
    Con l Z (⟨"com/example/footwise/footwise/osm/Protobuf", "expect", "(I)V"⟩ : MethodName) prog_23_method_14_code 2 none [] ({ frames := 0, cells := 0, slots := 0, locals := 0 } : Room) #[(.ref x0), (.int x1)] h0 (fun v h L => v = none ∧ Fr n0 L ∧ h = h0) := by
  refine Con.of (plainFor_of_name pn_1) ?_
  intro p e s m below meth c s₁ X0 hx hby hml hown hnm hret hlk hZ e0
  refine End.cast ?_ (ef_13 m x0 x1)
  have N0 := Fr.nil n0
  obtain ⟨E0, F1, F2, F3, F4, F5⟩ := P
  refine k_aloadN X0 hx (q := 1) rfl (hb hby d13_0) rfl rfl ?_
  refine k_getF X0 hx hZ (host := "") hown (Or.inl (hw _ (List.mem_of_getElem? (i := 43) rfl))) Via.refl e0 (q := 4) rfl (hb hby d13_1) F5 ?_
  intro T1 X1 e1
  refine k_iloadN X1 hx (q := 5) rfl (hb hby d13_4) rfl ?_
  refine k_icmp_eq X1 hx (q1 := 30) (q := 8) (by decide) (by decide) rfl (hb hby d13_5) (fun _ => ?_) (fun hc => absurd hwt hc)
  exact k_retV X1 hx hlk (by decide) (by decide) hret (hb hby d13_30) ⟨rfl, N0, e1⟩
theorem d12_0 : decode prog_23_method_15_code 0 = .ok (.aload_n 0, 1) := by decide +kernel
theorem d12_1 : decode prog_23_method_15_code 1 = .ok (.iconst 2, 1) := by decide +kernel
theorem d12_2 : decode prog_23_method_15_code 2 = .ok (.invokevirtual 46, 3) := by decide +kernel
theorem d12_5 : decode prog_23_method_15_code 5 = .ok (.aload_n 0, 1) := by decide +kernel
theorem d12_6 : decode prog_23_method_15_code 6 = .ok (.invokevirtual 23, 3) := by decide +kernel
theorem d12_9 : decode prog_23_method_15_code 9 = .ok (.lstore_n 1, 1) := by decide +kernel
theorem d12_10 : decode prog_23_method_15_code 10 = .ok (.aload_n 0, 1) := by decide +kernel
theorem d12_11 : decode prog_23_method_15_code 11 = .ok (.lload_n 1, 1) := by decide +kernel
theorem d12_12 : decode prog_23_method_15_code 12 = .ok (.invokevirtual 101, 3) := by decide +kernel
theorem d12_15 : decode prog_23_method_15_code 15 = .ok (.lload_n 1, 1) := by decide +kernel
theorem d12_16 : decode prog_23_method_15_code 16 = .ok (.l2i, 1) := by decide +kernel
theorem d12_17 : decode prog_23_method_15_code 17 = .ok (.ireturn, 1) := by decide +kernel
theorem ef_12 (m : MethodId) (x0 : Addr) : entryFrame m #[(.ref x0)] 3 = mkF m 0 #[.val (.ref x0), .unset, .unset] [] := by first | (simp [entryFrame, mkF, argsToLocals, Value.category]; done) | rfl
set_option maxRecDepth 65536 in
set_option maxHeartbeats 40000000 in
theorem rm12 (l : Launch) (Z : State) (a0 : Array Value) (hw : ∀ d ∈ tables_1, d.before a0 Z = true) (x0 : Addr) (h0 : Heap) (n0 : Nat) (ga : n0 ≤ x0) (ar : Addr) (ps en fl wt : Int32) (P : own_Pb Z h0 x0 ar ps en fl wt) (nb : ar ≠ x0) (po E : Nat) (hps : Ix ps po) (hen : Ix en E) (hE : E ≤ 1000) (M : Nat) (hEM : E ≤ M) (g : Nat → Int32) (V : Ary Z h0 ar .byte M (fun t => .int (g t))) (K : Nat) (hK : K < 10) (hneg : ∀ t, t < K → g (po + t) < 0) (hpos : ¬ g (po + K) < 0) (hpK : po + K < E) (hwt : wt = 2) (k : Nat) (hk : (own_raw g po (K + 1)).toInt = (k : Int)) (hle : po + K + 1 + k ≤ E) :
    Con l Z (⟨"com/example/footwise/footwise/osm/Protobuf", "length", "()I"⟩ : MethodName) prog_23_method_15_code 3 (some .int) [] ({ frames := 1, cells := 0, slots := 0, locals := 16 } : Room) #[(.ref x0)] h0 (fun v h L => v = some (.int (own_raw g po (K + 1)).toInt32) ∧ Fr n0 L ∧ Keep h0 h [x0] ∧ ∃ ps' : Int32, Ix ps' (po + K + 1) ∧ own_Pb Z h x0 ar ps' en fl wt) := by
  refine Con.of (plainFor_of_name pn_1) ?_
  intro p e s m below meth c s₁ X0 hx hby hml hown hnm hret hlk hZ e0
  refine End.cast ?_ (ef_12 m x0)
  have N0 := Fr.nil n0
  have P0 := P
  obtain ⟨E0, F1, F2, F3, F4, F5⟩ := P
  refine k_aloadN X0 hx (q := 1) rfl (hb hby d12_0) rfl rfl ?_
  refine k_iconst X0 hx (v := (2 : Int32)) rfl (q := 2) rfl (hb hby d12_1) ?_
  refine k_callP X0 hx hZ (y := (⟨"com/example/footwise/footwise/osm/Protobuf", "expect", "(I)V"⟩ : MethodName)) hown (hw _ (List.mem_of_getElem? (i := 67) rfl)) (hw _ (List.mem_of_getElem? (i := 68) rfl)) (hw _ (List.mem_of_getElem? (i := 13) rfl)) (hw _ (List.mem_of_getElem? (i := 69) rfl)) (hw _ (List.mem_of_getElem? (i := 70) rfl)) (hw _ (List.mem_of_getElem? (i := 14) rfl)) (by decide) E0 0 e0 (rm13 l Z a0 hw x0 (2 : Int32) h0 n0 ga ar ps en fl wt P0 nb po E hps hen hE hwt) (by decide) (by decide) (by decide) (by decide) (by rw [hml]; rfl) (a := x0) (as := [(.int (2 : Int32))]) (rest := []) pd_1 rfl (by first | exact Nat.le_refl _ | simp [Value.category]) (q := 5) rfl (hb hby d12_2) ?_
  rintro _ T1 L1 X1 ⟨rfl, N1q, e1⟩
  have N1 := Fr.app N0 N1q
  show End _ _ _ _ _ _ _ (T1.setTop (mkF m 5 #[.val (.ref x0), .unset, .unset] []))
  refine k_aloadN X1 hx (q := 6) rfl (hb hby d12_5) rfl rfl ?_
  refine k_callP X1 hx hZ (y := (⟨"com/example/footwise/footwise/osm/Protobuf", "rawVarint", "()J"⟩ : MethodName)) hown (hw _ (List.mem_of_getElem? (i := 35) rfl)) (hw _ (List.mem_of_getElem? (i := 36) rfl)) (hw _ (List.mem_of_getElem? (i := 13) rfl)) (hw _ (List.mem_of_getElem? (i := 37) rfl)) (hw _ (List.mem_of_getElem? (i := 38) rfl)) (hw _ (List.mem_of_getElem? (i := 14) rfl)) (by decide) E0 0 e1 (rm7 l Z a0 hw x0 h0 n0 ga ar ps en fl wt P0 nb po E hps hen hE M hEM g V K hK hneg hpos hpK) (by decide) (by decide) (by decide) (by decide) (by rw [hml]; rfl) (a := x0) (as := []) (rest := []) pd_2 rfl (by first | exact Nat.le_refl _ | simp [Value.category]) (q := 9) rfl (hb hby d12_6) ?_
  rintro _ T2 L2 X2 ⟨rfl, N2q, K2, ps', hps', P'⟩
  have N2 := Fr.app N1 N2q
  show End _ _ _ _ _ _ _ (T2.setTop (mkF m 9 #[.val (.ref x0), .unset, .unset] [(.long (own_raw g po (K + 1)))]))
  have P1 := P'
  obtain ⟨E1, G1, G2, G3, G4, G5⟩ := P'
  refine k_lstoreN X2 hx (L' := #[.val (.ref x0), .val (.long (own_raw g po (K + 1))), .second]) (q := 10) rfl (hb hby d12_9) rfl ?_
  refine k_aloadN X2 hx (q := 11) rfl (hb hby d12_10) rfl rfl ?_
  refine k_lloadN X2 hx (q := 12) rfl (hb hby d12_11) rfl ?_
  refine k_callP X2 hx hZ (y := (⟨"com/example/footwise/footwise/osm/Protobuf", "requireLeft", "(J)V"⟩ : MethodName)) hown (hw _ (List.mem_of_getElem? (i := 59) rfl)) (hw _ (List.mem_of_getElem? (i := 60) rfl)) (hw _ (List.mem_of_getElem? (i := 13) rfl)) (hw _ (List.mem_of_getElem? (i := 61) rfl)) (hw _ (List.mem_of_getElem? (i := 62) rfl)) (hw _ (List.mem_of_getElem? (i := 14) rfl)) (by decide) E1 0 rfl (rm11 l Z a0 hw x0 (own_raw g po (K + 1)) T2.heap n0 ga ar ps' en fl wt P1 nb (po + K + 1) E hps' hen hE k hk hle) (by decide) (by decide) (by decide) (by decide) (by rw [hml]; rfl) (a := x0) (as := [(.long (own_raw g po (K + 1)))]) (rest := []) pd_0 rfl (by first | exact Nat.le_refl _ | simp [Value.category]) (q := 15) rfl (hb hby d12_12) ?_
  rintro _ T3 L3 X3 ⟨rfl, N3q, e3⟩
  have N3 := Fr.app N2 N3q
  show End _ _ _ _ _ _ _ (T3.setTop (mkF m 15 #[.val (.ref x0), .val (.long (own_raw g po (K + 1))), .second] []))
  refine k_lloadN X3 hx (q := 16) rfl (hb hby d12_15) rfl ?_
  refine k_l2i X3 hx (q := 17) rfl (hb hby d12_16) ?_
  exact k_retI X3 hx hlk (by decide) (by decide) hret (hb hby d12_17) ⟨rfl, N3, by rw [e3]; exact K2, ps', hps', by rw [e3]; exact P1⟩
theorem own_short {x : Int64} {k : Nat} (h : x.toInt = (k : Int)) (hk : k ≤ 1000) : Ix x.toInt32 k := by
  apply Ix.of
  have e := c_l2i x
  have r := rng32 x.toInt32
  omega
theorem d9_0 : decode prog_23_method_13_code 0 = .ok (.aload_n 0, 1) := by decide +kernel
theorem d9_1 : decode prog_23_method_13_code 1 = .ok (.getfield 43, 3) := by decide +kernel
theorem d9_4 : decode prog_23_method_13_code 4 = .ok (.tableswitch 76 0 5 #[40, 48, 57, 76, 76, 68], 40) := by decide +kernel
theorem d9_44 : decode prog_23_method_13_code 44 = .ok (.aload_n 0, 1) := by decide +kernel
theorem d9_45 : decode prog_23_method_13_code 45 = .ok (.invokevirtual 23, 3) := by decide +kernel
theorem d9_48 : decode prog_23_method_13_code 48 = .ok (.pop2, 1) := by decide +kernel
theorem d9_49 : decode prog_23_method_13_code 49 = .ok (.goto 52, 3) := by decide +kernel
theorem d9_52 : decode prog_23_method_13_code 52 = .ok (.aload_n 0, 1) := by decide +kernel
theorem d9_53 : decode prog_23_method_13_code 53 = .ok (.bipush 8, 2) := by decide +kernel
theorem d9_55 : decode prog_23_method_13_code 55 = .ok (.invokevirtual 92, 3) := by decide +kernel
theorem d9_58 : decode prog_23_method_13_code 58 = .ok (.goto 43, 3) := by decide +kernel
theorem d9_61 : decode prog_23_method_13_code 61 = .ok (.aload_n 0, 1) := by decide +kernel
theorem d9_62 : decode prog_23_method_13_code 62 = .ok (.aload_n 0, 1) := by decide +kernel
theorem d9_63 : decode prog_23_method_13_code 63 = .ok (.invokevirtual 57, 3) := by decide +kernel
theorem d9_66 : decode prog_23_method_13_code 66 = .ok (.invokevirtual 92, 3) := by decide +kernel
theorem d9_69 : decode prog_23_method_13_code 69 = .ok (.goto 32, 3) := by decide +kernel
theorem d9_72 : decode prog_23_method_13_code 72 = .ok (.aload_n 0, 1) := by decide +kernel
theorem d9_73 : decode prog_23_method_13_code 73 = .ok (.iconst 4, 1) := by decide +kernel
theorem d9_74 : decode prog_23_method_13_code 74 = .ok (.invokevirtual 92, 3) := by decide +kernel
theorem d9_77 : decode prog_23_method_13_code 77 = .ok (.goto 24, 3) := by decide +kernel
theorem d9_101 : decode prog_23_method_13_code 101 = .ok (.return_, 1) := by decide +kernel
theorem ef_9z (m : MethodId) (x0 : Addr) : entryFrame m #[(.ref x0)] 1 = mkF m 0 #[.val (.ref x0)] [] := by first | (simp [entryFrame, mkF, argsToLocals, Value.category]; done) | rfl
set_option maxRecDepth 65536 in
set_option maxHeartbeats 40000000 in
theorem rm9z (l : Launch) (Z : State) (a0 : Array Value) (hw : ∀ d ∈ tables_1, d.before a0 Z = true) (x0 : Addr) (h0 : Heap) (n0 : Nat) (ga : n0 ≤ x0) (ar : Addr) (ps en fl : Int32) (P : own_Pb Z h0 x0 ar ps en fl (0 : Int32)) (nb : ar ≠ x0) (po E : Nat) (hps : Ix ps po) (hen : Ix en E) (hE : E ≤ 1000) (M : Nat) (hEM : E ≤ M) (g : Nat → Int32) (V : Ary Z h0 ar .byte M (fun t => .int (g t))) (K : Nat) (hK : K < 10) (hneg : ∀ t, t < K → g (po + t) < 0) (hpos : ¬ g (po + K) < 0) (hpK : po + K < E) :
    Con l Z (⟨"com/example/footwise/footwise/osm/Protobuf", "skip", "()V"⟩ : MethodName) prog_23_method_13_code 1 none [] ({ frames := 2, cells := 0, slots := 0, locals := 31 } : Room) #[(.ref x0)] h0 (fun v h L => v = none ∧ Fr n0 L ∧ Keep h0 h [x0] ∧ ∃ ps' : Int32, Ix ps' (po + K + 1) ∧ own_Pb Z h x0 ar ps' en fl (0 : Int32)) := by
  refine Con.of (plainFor_of_name pn_1) ?_
  intro p e s m below meth c s₁ X0 hx hby hml hown hnm hret hlk hZ e0
  refine End.cast ?_ (ef_9z m x0)
  have N0 := Fr.nil n0
  have P0 := P
  obtain ⟨E0, F1, F2, F3, F4, F5⟩ := P
  refine k_aloadN X0 hx (q := 1) rfl (hb hby d9_0) rfl rfl ?_
  refine k_getF X0 hx hZ (host := "") hown (Or.inl (hw _ (List.mem_of_getElem? (i := 43) rfl))) Via.refl e0 (q := 4) rfl (hb hby d9_1) F5 ?_
  intro T1 X1 e1
  refine k_tsw_in X1 hx (q := 44) (hb hby d9_4) (by decide) (o := 40) (by decide) (by decide) (by decide) ?_
  refine k_aloadN X1 hx (q := 45) rfl (hb hby d9_44) rfl rfl ?_
  refine k_callP X1 hx hZ (y := (⟨"com/example/footwise/footwise/osm/Protobuf", "rawVarint", "()J"⟩ : MethodName)) hown (hw _ (List.mem_of_getElem? (i := 35) rfl)) (hw _ (List.mem_of_getElem? (i := 36) rfl)) (hw _ (List.mem_of_getElem? (i := 13) rfl)) (hw _ (List.mem_of_getElem? (i := 37) rfl)) (hw _ (List.mem_of_getElem? (i := 38) rfl)) (hw _ (List.mem_of_getElem? (i := 14) rfl)) (by decide) E0 0 e1 (rm7 l Z a0 hw x0 h0 n0 ga ar ps en fl (0 : Int32) P0 nb po E hps hen hE M hEM g V K hK hneg hpos hpK) (by decide) (by decide) (by decide) (by decide) (by rw [hml]; rfl) (a := x0) (as := []) (rest := []) pd_2 rfl (by first | exact Nat.le_refl _ | simp [Value.category]) (q := 48) rfl (hb hby d9_45) ?_
  rintro _ T2 L2 X2 ⟨rfl, N2q, K2, ps', hps', P'⟩
  have N2 := Fr.app N0 N2q
  show End _ _ _ _ _ _ _ (T2.setTop (mkF m 48 #[.val (.ref x0)] [(.long (own_raw g po (K + 1)))]))
  refine k_pop2L X2 hx (q := 49) rfl (hb hby d9_48) ?_
  refine k_goto X2 hx (q := 101) (by decide) (by decide) (hb hby d9_49) ?_
  exact k_retV X2 hx hlk (by decide) (by decide) hret (hb hby d9_101) ⟨rfl, N2, K2, ps', hps', P'⟩
theorem ef_9e (m : MethodId) (x0 : Addr) : entryFrame m #[(.ref x0)] 1 = mkF m 0 #[.val (.ref x0)] [] := by first | (simp [entryFrame, mkF, argsToLocals, Value.category]; done) | rfl
set_option maxRecDepth 65536 in
set_option maxHeartbeats 40000000 in
theorem rm9e (l : Launch) (Z : State) (a0 : Array Value) (hw : ∀ d ∈ tables_1, d.before a0 Z = true) (x0 : Addr) (h0 : Heap) (n0 : Nat) (ga : n0 ≤ x0) (ar : Addr) (ps en fl : Int32) (P : own_Pb Z h0 x0 ar ps en fl (1 : Int32)) (nb : ar ≠ x0) (po E : Nat) (hps : Ix ps po) (hen : Ix en E) (hE : E ≤ 1000) (hle : po + 8 ≤ E) :
    Con l Z (⟨"com/example/footwise/footwise/osm/Protobuf", "skip", "()V"⟩ : MethodName) prog_23_method_13_code 1 none [] ({ frames := 2, cells := 0, slots := 0, locals := 31 } : Room) #[(.ref x0)] h0 (fun v h L => v = none ∧ Fr n0 L ∧ Keep h0 h [x0] ∧ ∃ ps' : Int32, Ix ps' (po + 8) ∧ own_Pb Z h x0 ar ps' en fl (1 : Int32)) := by
  refine Con.of (plainFor_of_name pn_1) ?_
  intro p e s m below meth c s₁ X0 hx hby hml hown hnm hret hlk hZ e0
  refine End.cast ?_ (ef_9e m x0)
  have N0 := Fr.nil n0
  have P0 := P
  obtain ⟨E0, F1, F2, F3, F4, F5⟩ := P
  refine k_aloadN X0 hx (q := 1) rfl (hb hby d9_0) rfl rfl ?_
  refine k_getF X0 hx hZ (host := "") hown (Or.inl (hw _ (List.mem_of_getElem? (i := 43) rfl))) Via.refl e0 (q := 4) rfl (hb hby d9_1) F5 ?_
  intro T1 X1 e1
  refine k_tsw_in X1 hx (q := 52) (hb hby d9_4) (by decide) (o := 48) (by decide) (by decide) (by decide) ?_
  refine k_aloadN X1 hx (q := 53) rfl (hb hby d9_52) rfl rfl ?_
  refine k_bipush X1 hx (v := (8 : Int32)) rfl (q := 55) rfl (hb hby d9_53) ?_
  refine k_callP X1 hx hZ (y := (⟨"com/example/footwise/footwise/osm/Protobuf", "advance", "(I)V"⟩ : MethodName)) hown (hw _ (List.mem_of_getElem? (i := 55) rfl)) (hw _ (List.mem_of_getElem? (i := 56) rfl)) (hw _ (List.mem_of_getElem? (i := 13) rfl)) (hw _ (List.mem_of_getElem? (i := 57) rfl)) (hw _ (List.mem_of_getElem? (i := 58) rfl)) (hw _ (List.mem_of_getElem? (i := 14) rfl)) (by decide) E0 0 e1 (rm10 l Z a0 hw x0 (8 : Int32) h0 n0 ga ar ps en fl (1 : Int32) P0 nb po E hps hen hE 8 ⟨by decide, by decide⟩ hle) (by decide) (by decide) (by decide) (by decide) (by rw [hml]; rfl) (a := x0) (as := [(.int (8 : Int32))]) (rest := []) pd_1 rfl (by first | exact Nat.le_refl _ | simp [Value.category]) (q := 58) rfl (hb hby d9_55) ?_
  rintro _ T2 L2 X2 ⟨rfl, N2q, K2, ps', hps', P'⟩
  have N2 := Fr.app N0 N2q
  show End _ _ _ _ _ _ _ (T2.setTop (mkF m 58 #[.val (.ref x0)] []))
  refine k_goto X2 hx (q := 101) (by decide) (by decide) (hb hby d9_58) ?_
  exact k_retV X2 hx hlk (by decide) (by decide) hret (hb hby d9_101) ⟨rfl, N2, K2, ps', hps', P'⟩
theorem ef_9l (m : MethodId) (x0 : Addr) : entryFrame m #[(.ref x0)] 1 = mkF m 0 #[.val (.ref x0)] [] := by first | (simp [entryFrame, mkF, argsToLocals, Value.category]; done) | rfl
set_option maxRecDepth 65536 in
set_option maxHeartbeats 40000000 in
theorem rm9l (l : Launch) (Z : State) (a0 : Array Value) (hw : ∀ d ∈ tables_1, d.before a0 Z = true) (x0 : Addr) (h0 : Heap) (n0 : Nat) (ga : n0 ≤ x0) (ar : Addr) (ps en fl : Int32) (P : own_Pb Z h0 x0 ar ps en fl (2 : Int32)) (nb : ar ≠ x0) (po E : Nat) (hps : Ix ps po) (hen : Ix en E) (hE : E ≤ 1000) (M : Nat) (hEM : E ≤ M) (g : Nat → Int32) (V : Ary Z h0 ar .byte M (fun t => .int (g t))) (K : Nat) (hK : K < 10) (hneg : ∀ t, t < K → g (po + t) < 0) (hpos : ¬ g (po + K) < 0) (hpK : po + K < E) (k : Nat) (hk : (own_raw g po (K + 1)).toInt = (k : Int)) (hle : po + K + 1 + k ≤ E) :
    Con l Z (⟨"com/example/footwise/footwise/osm/Protobuf", "skip", "()V"⟩ : MethodName) prog_23_method_13_code 1 none [] ({ frames := 2, cells := 0, slots := 0, locals := 31 } : Room) #[(.ref x0)] h0 (fun v h L => v = none ∧ Fr n0 L ∧ Keep h0 h [x0] ∧ ∃ ps' : Int32, Ix ps' (po + K + 1 + k) ∧ own_Pb Z h x0 ar ps' en fl (2 : Int32)) := by
  refine Con.of (plainFor_of_name pn_1) ?_
  intro p e s m below meth c s₁ X0 hx hby hml hown hnm hret hlk hZ e0
  refine End.cast ?_ (ef_9l m x0)
  have N0 := Fr.nil n0
  have P0 := P
  obtain ⟨E0, F1, F2, F3, F4, F5⟩ := P
  refine k_aloadN X0 hx (q := 1) rfl (hb hby d9_0) rfl rfl ?_
  refine k_getF X0 hx hZ (host := "") hown (Or.inl (hw _ (List.mem_of_getElem? (i := 43) rfl))) Via.refl e0 (q := 4) rfl (hb hby d9_1) F5 ?_
  intro T1 X1 e1
  refine k_tsw_in X1 hx (q := 61) (hb hby d9_4) (by decide) (o := 57) (by decide) (by decide) (by decide) ?_
  refine k_aloadN X1 hx (q := 62) rfl (hb hby d9_61) rfl rfl ?_
  refine k_aloadN X1 hx (q := 63) rfl (hb hby d9_62) rfl rfl ?_
  refine k_callP X1 hx hZ (y := (⟨"com/example/footwise/footwise/osm/Protobuf", "length", "()I"⟩ : MethodName)) hown (hw _ (List.mem_of_getElem? (i := 63) rfl)) (hw _ (List.mem_of_getElem? (i := 64) rfl)) (hw _ (List.mem_of_getElem? (i := 13) rfl)) (hw _ (List.mem_of_getElem? (i := 65) rfl)) (hw _ (List.mem_of_getElem? (i := 66) rfl)) (hw _ (List.mem_of_getElem? (i := 14) rfl)) (by decide) E0 1 e1 (rm12 l Z a0 hw x0 h0 n0 ga ar ps en fl (2 : Int32) P0 nb po E hps hen hE M hEM g V K hK hneg hpos hpK rfl k hk hle) (by decide) (by decide) (by decide) (by decide) (by rw [hml]; rfl) (a := x0) (as := []) (rest := [(.ref x0)]) pd_3 rfl (by first | exact Nat.le_refl _ | simp [Value.category]) (q := 66) rfl (hb hby d9_63) ?_
  rintro _ T2 L2 X2 ⟨rfl, N2q, K2, ps', hps', P'⟩
  have N2 := Fr.app N0 N2q
  show End _ _ _ _ _ _ _ (T2.setTop (mkF m 66 #[.val (.ref x0)] [(.int (own_raw g po (K + 1)).toInt32), (.ref x0)]))
  refine k_callP X2 hx hZ (y := (⟨"com/example/footwise/footwise/osm/Protobuf", "advance", "(I)V"⟩ : MethodName)) hown (hw _ (List.mem_of_getElem? (i := 55) rfl)) (hw _ (List.mem_of_getElem? (i := 56) rfl)) (hw _ (List.mem_of_getElem? (i := 13) rfl)) (hw _ (List.mem_of_getElem? (i := 57) rfl)) (hw _ (List.mem_of_getElem? (i := 58) rfl)) (hw _ (List.mem_of_getElem? (i := 14) rfl)) (by decide) P'.1 0 rfl (rm10 l Z a0 hw x0 (own_raw g po (K + 1)).toInt32 T2.heap n0 ga ar ps' en fl (2 : Int32) P' nb (po + K + 1) E hps' hen hE k (own_short hk (by omega)) hle) (by decide) (by decide) (by decide) (by decide) (by rw [hml]; rfl) (a := x0) (as := [(.int (own_raw g po (K + 1)).toInt32)]) (rest := []) pd_1 rfl (by first | exact Nat.le_refl _ | simp [Value.category]) (q := 69) rfl (hb hby d9_66) ?_
  rintro _ T3 L3 X3 ⟨rfl, N3q, K3, ps'', hps'', P''⟩
  have N3 := Fr.app N2 N3q
  show End _ _ _ _ _ _ _ (T3.setTop (mkF m 69 #[.val (.ref x0)] []))
  refine k_goto X3 hx (q := 101) (by decide) (by decide) (hb hby d9_69) ?_
  have Kp4 : Keep h0 T2.heap [x0] := Keep.trans (Keep.refl h0 [x0]) K2 (allS (Or.inl (List.mem_of_getElem? (i := 0) rfl)) all0)
  have Kp5 : Keep h0 T3.heap [x0] := Keep.trans Kp4 K3 (allS (Or.inl (List.mem_of_getElem? (i := 0) rfl)) all0)
  exact k_retV X3 hx hlk (by decide) (by decide) hret (hb hby d9_101) ⟨rfl, N3, Kp5, ps'', hps'', P''⟩
theorem ef_9f (m : MethodId) (x0 : Addr) : entryFrame m #[(.ref x0)] 1 = mkF m 0 #[.val (.ref x0)] [] := by first | (simp [entryFrame, mkF, argsToLocals, Value.category]; done) | rfl
set_option maxRecDepth 65536 in
set_option maxHeartbeats 40000000 in
theorem rm9f (l : Launch) (Z : State) (a0 : Array Value) (hw : ∀ d ∈ tables_1, d.before a0 Z = true) (x0 : Addr) (h0 : Heap) (n0 : Nat) (ga : n0 ≤ x0) (ar : Addr) (ps en fl : Int32) (P : own_Pb Z h0 x0 ar ps en fl (5 : Int32)) (nb : ar ≠ x0) (po E : Nat) (hps : Ix ps po) (hen : Ix en E) (hE : E ≤ 1000) (hle : po + 4 ≤ E) :
    Con l Z (⟨"com/example/footwise/footwise/osm/Protobuf", "skip", "()V"⟩ : MethodName) prog_23_method_13_code 1 none [] ({ frames := 2, cells := 0, slots := 0, locals := 31 } : Room) #[(.ref x0)] h0 (fun v h L => v = none ∧ Fr n0 L ∧ Keep h0 h [x0] ∧ ∃ ps' : Int32, Ix ps' (po + 4) ∧ own_Pb Z h x0 ar ps' en fl (5 : Int32)) := by
  refine Con.of (plainFor_of_name pn_1) ?_
  intro p e s m below meth c s₁ X0 hx hby hml hown hnm hret hlk hZ e0
  refine End.cast ?_ (ef_9f m x0)
  have N0 := Fr.nil n0
  have P0 := P
  obtain ⟨E0, F1, F2, F3, F4, F5⟩ := P
  refine k_aloadN X0 hx (q := 1) rfl (hb hby d9_0) rfl rfl ?_
  refine k_getF X0 hx hZ (host := "") hown (Or.inl (hw _ (List.mem_of_getElem? (i := 43) rfl))) Via.refl e0 (q := 4) rfl (hb hby d9_1) F5 ?_
  intro T1 X1 e1
  refine k_tsw_in X1 hx (q := 72) (hb hby d9_4) (by decide) (o := 68) (by decide) (by decide) (by decide) ?_
  refine k_aloadN X1 hx (q := 73) rfl (hb hby d9_72) rfl rfl ?_
  refine k_iconst X1 hx (v := (4 : Int32)) rfl (q := 74) rfl (hb hby d9_73) ?_
  refine k_callP X1 hx hZ (y := (⟨"com/example/footwise/footwise/osm/Protobuf", "advance", "(I)V"⟩ : MethodName)) hown (hw _ (List.mem_of_getElem? (i := 55) rfl)) (hw _ (List.mem_of_getElem? (i := 56) rfl)) (hw _ (List.mem_of_getElem? (i := 13) rfl)) (hw _ (List.mem_of_getElem? (i := 57) rfl)) (hw _ (List.mem_of_getElem? (i := 58) rfl)) (hw _ (List.mem_of_getElem? (i := 14) rfl)) (by decide) E0 0 e1 (rm10 l Z a0 hw x0 (4 : Int32) h0 n0 ga ar ps en fl (5 : Int32) P0 nb po E hps hen hE 4 ⟨by decide, by decide⟩ hle) (by decide) (by decide) (by decide) (by decide) (by rw [hml]; rfl) (a := x0) (as := [(.int (4 : Int32))]) (rest := []) pd_1 rfl (by first | exact Nat.le_refl _ | simp [Value.category]) (q := 77) rfl (hb hby d9_74) ?_
  rintro _ T2 L2 X2 ⟨rfl, N2q, K2, ps', hps', P'⟩
  have N2 := Fr.app N0 N2q
  show End _ _ _ _ _ _ _ (T2.setTop (mkF m 77 #[.val (.ref x0)] []))
  refine k_goto X2 hx (q := 101) (by decide) (by decide) (hb hby d9_77) ?_
  exact k_retV X2 hx hlk (by decide) (by decide) hret (hb hby d9_101) ⟨rfl, N2, K2, ps', hps', P'⟩
theorem d6_0 : decode prog_23_method_3_code 0 = .ok (.aload_n 0, 1) := by decide +kernel
theorem d6_1 : decode prog_23_method_3_code 1 = .ok (.getfield 16, 3) := by decide +kernel
theorem d6_4 : decode prog_23_method_3_code 4 = .ok (.aload_n 0, 1) := by decide +kernel
theorem d6_5 : decode prog_23_method_3_code 5 = .ok (.getfield 20, 3) := by decide +kernel
theorem d6_8 : decode prog_23_method_3_code 8 = .ok (.if_icmp .lt 5, 3) := by decide +kernel
theorem d6_11 : decode prog_23_method_3_code 11 = .ok (.iconst 0, 1) := by decide +kernel
theorem d6_12 : decode prog_23_method_3_code 12 = .ok (.ireturn, 1) := by decide +kernel
theorem d6_13 : decode prog_23_method_3_code 13 = .ok (.aload_n 0, 1) := by decide +kernel
theorem d6_14 : decode prog_23_method_3_code 14 = .ok (.invokevirtual 23, 3) := by decide +kernel
theorem d6_17 : decode prog_23_method_3_code 17 = .ok (.lstore_n 1, 1) := by decide +kernel
theorem d6_18 : decode prog_23_method_3_code 18 = .ok (.lload_n 1, 1) := by decide +kernel
theorem d6_19 : decode prog_23_method_3_code 19 = .ok (.iconst 3, 1) := by decide +kernel
theorem d6_20 : decode prog_23_method_3_code 20 = .ok (.lushr, 1) := by decide +kernel
theorem d6_21 : decode prog_23_method_3_code 21 = .ok (.lstore_n 3, 1) := by decide +kernel
theorem d6_22 : decode prog_23_method_3_code 22 = .ok (.lload_n 3, 1) := by decide +kernel
theorem d6_23 : decode prog_23_method_3_code 23 = .ok (.lconst 1, 1) := by decide +kernel
theorem d6_24 : decode prog_23_method_3_code 24 = .ok (.lcmp, 1) := by decide +kernel
theorem d6_25 : decode prog_23_method_3_code 25 = .ok (.ifCond .lt 11, 3) := by decide +kernel
theorem d6_28 : decode prog_23_method_3_code 28 = .ok (.lload_n 3, 1) := by decide +kernel
theorem d6_29 : decode prog_23_method_3_code 29 = .ok (.ldc2_w 27, 3) := by decide +kernel
theorem d6_32 : decode prog_23_method_3_code 32 = .ok (.lcmp, 1) := by decide +kernel
theorem d6_33 : decode prog_23_method_3_code 33 = .ok (.ifCond .le 17, 3) := by decide +kernel
theorem d6_50 : decode prog_23_method_3_code 50 = .ok (.aload_n 0, 1) := by decide +kernel
theorem d6_51 : decode prog_23_method_3_code 51 = .ok (.lload_n 3, 1) := by decide +kernel
theorem d6_52 : decode prog_23_method_3_code 52 = .ok (.l2i, 1) := by decide +kernel
theorem d6_53 : decode prog_23_method_3_code 53 = .ok (.putfield 38, 3) := by decide +kernel
theorem d6_56 : decode prog_23_method_3_code 56 = .ok (.aload_n 0, 1) := by decide +kernel
theorem d6_57 : decode prog_23_method_3_code 57 = .ok (.lload_n 1, 1) := by decide +kernel
theorem d6_58 : decode prog_23_method_3_code 58 = .ok (.ldc2_w 41, 3) := by decide +kernel
theorem d6_61 : decode prog_23_method_3_code 61 = .ok (.land, 1) := by decide +kernel
theorem d6_62 : decode prog_23_method_3_code 62 = .ok (.l2i, 1) := by decide +kernel
theorem d6_63 : decode prog_23_method_3_code 63 = .ok (.putfield 43, 3) := by decide +kernel
theorem d6_66 : decode prog_23_method_3_code 66 = .ok (.iconst 1, 1) := by decide +kernel
theorem d6_67 : decode prog_23_method_3_code 67 = .ok (.ireturn, 1) := by decide +kernel
theorem ef_6e (m : MethodId) (x0 : Addr) : entryFrame m #[(.ref x0)] 5 = mkF m 0 #[.val (.ref x0), .unset, .unset, .unset, .unset] [] := by first | (simp [entryFrame, mkF, argsToLocals, Value.category]; done) | rfl
set_option maxRecDepth 65536 in
set_option maxHeartbeats 40000000 in
theorem rm6e (l : Launch) (Z : State) (a0 : Array Value) (hw : ∀ d ∈ tables_1, d.before a0 Z = true) (x0 : Addr) (h0 : Heap) (n0 : Nat) (ga : n0 ≤ x0) (ar : Addr) (ps en fl wt : Int32) (P : own_Pb Z h0 x0 ar ps en fl wt) (nb : ar ≠ x0) (po E : Nat) (hps : Ix ps po) (hen : Ix en E) (hE : E ≤ 1000) (hEp : E ≤ po) :
    Con l Z (⟨"com/example/footwise/footwise/osm/Protobuf", "next", "()Z"⟩ : MethodName) prog_23_method_3_code 5 (some .boolean) [] ({ frames := 1, cells := 0, slots := 0, locals := 16 } : Room) #[(.ref x0)] h0 (fun v h L => v = some (.int 0) ∧ Fr n0 L ∧ h = h0) := by
  refine Con.of (plainFor_of_name pn_1) ?_
  intro p e s m below meth c s₁ X0 hx hby hml hown hnm hret hlk hZ e0
  refine End.cast ?_ (ef_6e m x0)
  have N0 := Fr.nil n0
  obtain ⟨E0, F1, F2, F3, F4, F5⟩ := P
  refine k_aloadN X0 hx (q := 1) rfl (hb hby d6_0) rfl rfl ?_
  refine k_getF X0 hx hZ (host := "") hown (Or.inl (hw _ (List.mem_of_getElem? (i := 26) rfl))) Via.refl e0 (q := 4) rfl (hb hby d6_1) F2 ?_
  intro T1 X1 e1
  refine k_aloadN X1 hx (q := 5) rfl (hb hby d6_4) rfl rfl ?_
  refine k_getF X1 hx hZ (host := "") hown (Or.inl (hw _ (List.mem_of_getElem? (i := 28) rfl))) Via.refl e1 (q := 8) rfl (hb hby d6_5) F3 ?_
  intro T2 X2 e2
  refine k_icmp_lt X2 hx (q1 := 13) (q := 11) (by decide) (by decide) rfl (hb hby d6_8) (fun hc => absurd hc (mt (own_lt hps hen).mp (by omega))) (fun _ => ?_)
  refine k_iconst X2 hx (v := (0 : Int32)) rfl (q := 12) rfl (hb hby d6_11) ?_
  exact k_retN X2 hx (t := .boolean) hlk (by decide) (by decide) hret (by simp) (hb hby d6_12) ⟨rfl, N0, e2⟩
theorem ef_6 (m : MethodId) (x0 : Addr) : entryFrame m #[(.ref x0)] 5 = mkF m 0 #[.val (.ref x0), .unset, .unset, .unset, .unset] [] := by first | (simp [entryFrame, mkF, argsToLocals, Value.category]; done) | rfl
set_option maxRecDepth 65536 in
set_option maxHeartbeats 40000000 in
theorem rm6 (l : Launch) (Z : State) (a0 : Array Value) (hw : ∀ d ∈ tables_1, d.before a0 Z = true) (x0 : Addr) (h0 : Heap) (n0 : Nat) (ga : n0 ≤ x0) (ar : Addr) (ps en fl wt : Int32) (P : own_Pb Z h0 x0 ar ps en fl wt) (nb : ar ≠ x0) (po E : Nat) (hps : Ix ps po) (hen : Ix en E) (hE : E ≤ 1000) (M : Nat) (hEM : E ≤ M) (g : Nat → Int32) (V : Ary Z h0 ar .byte M (fun t => .int (g t))) (K : Nat) (hK : K < 10) (hneg : ∀ t, t < K → g (po + t) < 0) (hpos : ¬ g (po + K) < 0) (hpK : po + K < E) (kv : Int64) (hkv : own_raw g po (K + 1) = kv) (hk1 : ¬ ((kv.toUInt64 >>> ((3 : Int32) &&& 0x3f).toInt64.toUInt64).toInt64) < (1 : Int64)) (hk2 : ¬ (536870911 : Int64) < ((kv.toUInt64 >>> ((3 : Int32) &&& 0x3f).toInt64.toUInt64).toInt64)) :
    Con l Z (⟨"com/example/footwise/footwise/osm/Protobuf", "next", "()Z"⟩ : MethodName) prog_23_method_3_code 5 (some .boolean) [] ({ frames := 1, cells := 0, slots := 0, locals := 16 } : Room) #[(.ref x0)] h0 (fun v h L => v = some (.int 1) ∧ Fr n0 L ∧ Keep h0 h [x0] ∧ ∃ ps' : Int32, Ix ps' (po + K + 1) ∧ own_Pb Z h x0 ar ps' en ((kv.toUInt64 >>> ((3 : Int32) &&& 0x3f).toInt64.toUInt64).toInt64).toInt32 (kv &&& (7 : Int64)).toInt32) := by
  refine Con.of (plainFor_of_name pn_1) ?_
  intro p e s m below meth c s₁ X0 hx hby hml hown hnm hret hlk hZ e0
  refine End.cast ?_ (ef_6 m x0)
  have N0 := Fr.nil n0
  have P0 := P
  obtain ⟨E0, F1, F2, F3, F4, F5⟩ := P
  refine k_aloadN X0 hx (q := 1) rfl (hb hby d6_0) rfl rfl ?_
  refine k_getF X0 hx hZ (host := "") hown (Or.inl (hw _ (List.mem_of_getElem? (i := 26) rfl))) Via.refl e0 (q := 4) rfl (hb hby d6_1) F2 ?_
  intro T1 X1 e1
  refine k_aloadN X1 hx (q := 5) rfl (hb hby d6_4) rfl rfl ?_
  refine k_getF X1 hx hZ (host := "") hown (Or.inl (hw _ (List.mem_of_getElem? (i := 28) rfl))) Via.refl e1 (q := 8) rfl (hb hby d6_5) F3 ?_
  intro T2 X2 e2
  refine k_icmp_lt X2 hx (q1 := 13) (q := 11) (by decide) (by decide) rfl (hb hby d6_8) (fun _ => ?_) (fun hc => absurd ((own_lt hps hen).mpr (by omega)) hc)
  refine k_aloadN X2 hx (q := 14) rfl (hb hby d6_13) rfl rfl ?_
  refine k_callP X2 hx hZ (y := (⟨"com/example/footwise/footwise/osm/Protobuf", "rawVarint", "()J"⟩ : MethodName)) hown (hw _ (List.mem_of_getElem? (i := 35) rfl)) (hw _ (List.mem_of_getElem? (i := 36) rfl)) (hw _ (List.mem_of_getElem? (i := 13) rfl)) (hw _ (List.mem_of_getElem? (i := 37) rfl)) (hw _ (List.mem_of_getElem? (i := 38) rfl)) (hw _ (List.mem_of_getElem? (i := 14) rfl)) (by decide) E0 0 e2 (rm7 l Z a0 hw x0 h0 n0 ga ar ps en fl wt P0 nb po E hps hen hE M hEM g V K hK hneg hpos hpK) (by decide) (by decide) (by decide) (by decide) (by rw [hml]; rfl) (a := x0) (as := []) (rest := []) pd_2 rfl (by first | exact Nat.le_refl _ | simp [Value.category]) (q := 17) rfl (hb hby d6_14) ?_
  rintro _ T4 L4 X4 ⟨rfl, N4q, K4, ps', hps', P'⟩
  have N4 := Fr.app N0 N4q
  show End _ _ _ _ _ _ _ (T4.setTop (mkF m 17 #[.val (.ref x0), .unset, .unset, .unset, .unset] [(.long (own_raw g po (K + 1)))]))
  rw [hkv]
  show End _ _ _ _ _ _ _ (T4.setTop (mkF m 17 #[.val (.ref x0), .unset, .unset, .unset, .unset] [(.long kv)]))
  obtain ⟨E1, G1, G2, G3, G4, G5⟩ := P'
  refine k_lstoreN X4 hx (L' := #[.val (.ref x0), .val (.long kv), .second, .unset, .unset]) (q := 18) rfl (hb hby d6_17) rfl ?_
  refine k_lloadN X4 hx (q := 19) rfl (hb hby d6_18) rfl ?_
  refine k_iconst X4 hx (v := (3 : Int32)) rfl (q := 20) rfl (hb hby d6_19) ?_
  refine k_lushr X4 hx (q := 21) rfl (hb hby d6_20) ?_
  refine k_lstoreN X4 hx (L' := #[.val (.ref x0), .val (.long kv), .second, .val (.long ((kv.toUInt64 >>> ((3 : Int32) &&& 0x3f).toInt64.toUInt64).toInt64)), .second]) (q := 22) rfl (hb hby d6_21) rfl ?_
  refine k_lloadN X4 hx (q := 23) rfl (hb hby d6_22) rfl ?_
  refine k_lconst X4 hx (v := (1 : Int64)) rfl (q := 24) rfl (hb hby d6_23) ?_
  refine k_lcmp_lt X4 hx (q1 := 36) (q := 28) (by decide) (by decide) rfl (hb hby d6_24) (hb hby d6_25) (fun hc => absurd hc hk1) (fun _ => ?_)
  refine k_lloadN X4 hx (q := 29) rfl (hb hby d6_28) rfl ?_
  refine k_ldc2J X4 hx hZ (v := (536870911 : Int64)) hown (hw _ (List.mem_of_getElem? (i := 39) rfl)) (q := 32) rfl (hb hby d6_29) ?_
  refine k_lcmp_le X4 hx (q1 := 50) (q := 36) (by decide) (by decide) rfl (hb hby d6_32) (hb hby d6_33) (fun _ => ?_) (fun hc => absurd hc hk2)
  refine k_aloadN X4 hx (q := 51) rfl (hb hby d6_50) rfl rfl ?_
  refine k_lloadN X4 hx (q := 52) rfl (hb hby d6_51) rfl ?_
  refine k_l2i X4 hx (q := 53) rfl (hb hby d6_52) ?_
  refine k_putF X4 hx hZ (host := "") hown (Or.inl (hw _ (List.mem_of_getElem? (i := 40) rfl))) Via.refl rfl (Or.inl (hw _ (List.mem_of_getElem? (i := 41) rfl))) (hw _ (List.mem_of_getElem? (i := 13) rfl)) (ty := .int) (by decide) rfl rfl (q := 56) rfl (hb hby d6_53) G4 E1 ?_
  intro T7 h7 X7 e7 W7
  have K7 := Keep.of_wr W7
  have N7 := Fr.snoc X7 N4 ga
  have Fw7 := (G4).same W7
  refine k_aloadN X7 hx (q := 57) rfl (hb hby d6_56) rfl rfl ?_
  refine k_lloadN X7 hx (q := 58) rfl (hb hby d6_57) rfl ?_
  refine k_ldc2J X7 hx hZ (v := (7 : Int64)) hown (hw _ (List.mem_of_getElem? (i := 42) rfl)) (q := 61) rfl (hb hby d6_58) ?_
  refine k_land X7 hx (q := 62) rfl (hb hby d6_61) ?_
  refine k_l2i X7 hx (q := 63) rfl (hb hby d6_62) ?_
  have G8 := (G5.other W7 (Or.inr (slot_ne (t := .int) (t' := .int) (Or.inl (hw _ (List.mem_of_getElem? (i := 44) rfl))) (Or.inl (hw _ (List.mem_of_getElem? (i := 41) rfl))) (by decide) (by decide) (by decide))))
  have G9 := (E1.keep K7)
  refine k_putF X7 hx hZ (host := "") hown (Or.inl (hw _ (List.mem_of_getElem? (i := 43) rfl))) Via.refl e7 (Or.inl (hw _ (List.mem_of_getElem? (i := 44) rfl))) (hw _ (List.mem_of_getElem? (i := 13) rfl)) (ty := .int) (by decide) rfl rfl (q := 66) rfl (hb hby d6_63) G8 G9 ?_
  intro T10 h10 X10 e10 W10
  have K10 := Keep.of_wr W10
  have N10 := Fr.snoc X10 N7 ga
  have Fw10 := (G8).same W10
  refine k_iconst X10 hx (v := (1 : Int32)) rfl (q := 67) rfl (hb hby d6_66) ?_
  have Kp11 : Keep h0 T4.heap [x0] := Keep.trans (Keep.refl h0 [x0]) K4 (allS (Or.inl (List.mem_of_getElem? (i := 0) rfl)) all0)
  have Kp12 : Keep h0 h7 [x0] := Keep.trans Kp11 K7 (allS (Or.inl (List.mem_of_getElem? (i := 0) rfl)) all0)
  have Kp13 : Keep h0 h10 [x0] := Keep.trans Kp12 K10 (allS (Or.inl (List.mem_of_getElem? (i := 0) rfl)) all0)
  have G14 := (G9.keep K10)
  have G15 := ((G1.other W7 (Or.inr (slot_ne (t := (.array .byte)) (t' := .int) (Or.inr (hw _ (List.mem_of_getElem? (i := 25) rfl))) (Or.inl (hw _ (List.mem_of_getElem? (i := 41) rfl))) (by decide) (by decide) (by decide)))).other W10 (Or.inr (slot_ne (t := (.array .byte)) (t' := .int) (Or.inr (hw _ (List.mem_of_getElem? (i := 25) rfl))) (Or.inl (hw _ (List.mem_of_getElem? (i := 44) rfl))) (by decide) (by decide) (by decide))))
  have G16 := ((G2.other W7 (Or.inr (slot_ne (t := .int) (t' := .int) (Or.inl (hw _ (List.mem_of_getElem? (i := 27) rfl))) (Or.inl (hw _ (List.mem_of_getElem? (i := 41) rfl))) (by decide) (by decide) (by decide)))).other W10 (Or.inr (slot_ne (t := .int) (t' := .int) (Or.inl (hw _ (List.mem_of_getElem? (i := 27) rfl))) (Or.inl (hw _ (List.mem_of_getElem? (i := 44) rfl))) (by decide) (by decide) (by decide))))
  have G17 := ((G3.other W7 (Or.inr (slot_ne (t := .int) (t' := .int) (Or.inr (hw _ (List.mem_of_getElem? (i := 29) rfl))) (Or.inl (hw _ (List.mem_of_getElem? (i := 41) rfl))) (by decide) (by decide) (by decide)))).other W10 (Or.inr (slot_ne (t := .int) (t' := .int) (Or.inr (hw _ (List.mem_of_getElem? (i := 29) rfl))) (Or.inl (hw _ (List.mem_of_getElem? (i := 44) rfl))) (by decide) (by decide) (by decide))))
  have G18 := (Fw7.other W10 (Or.inr (slot_ne (t := .int) (t' := .int) (Or.inl (hw _ (List.mem_of_getElem? (i := 41) rfl))) (Or.inl (hw _ (List.mem_of_getElem? (i := 44) rfl))) (by decide) (by decide) (by decide))))
  exact k_retN X10 hx (t := .boolean) hlk (by decide) (by decide) hret (by simp) (hb hby d6_67) ⟨rfl, N10, by rw [e10]; exact Kp13, ps', hps', by rw [e10]; exact ⟨G14, G15, G16, G17, G18, Fw10⟩⟩
theorem d8_0 : decode prog_23_method_4_code 0 = .ok (.aload_n 0, 1) := by decide +kernel
theorem d8_1 : decode prog_23_method_4_code 1 = .ok (.getfield 38, 3) := by decide +kernel
theorem d8_4 : decode prog_23_method_4_code 4 = .ok (.ireturn, 1) := by decide +kernel
theorem ef_8 (m : MethodId) (x0 : Addr) : entryFrame m #[(.ref x0)] 1 = mkF m 0 #[.val (.ref x0)] [] := by first | (simp [entryFrame, mkF, argsToLocals, Value.category]; done) | rfl
set_option maxRecDepth 65536 in
set_option maxHeartbeats 40000000 in
theorem rm8 (l : Launch) (Z : State) (a0 : Array Value) (hw : ∀ d ∈ tables_1, d.before a0 Z = true) (x0 : Addr) (h0 : Heap) (n0 : Nat) (y : Int32) (F0 : Fld Z h0 x0 "com/example/footwise/footwise/osm/Protobuf" "field" "I" (.int y)) :
    Con l Z (⟨"com/example/footwise/footwise/osm/Protobuf", "field", "()I"⟩ : MethodName) prog_23_method_4_code 1 (some .int) [] ({ frames := 0, cells := 0, slots := 0, locals := 0 } : Room) #[(.ref x0)] h0 (fun v h L => v = some (.int y) ∧ Fr n0 L ∧ h = h0) := by
  refine Con.of (plainFor_of_name pn_1) ?_
  intro p e s m below meth c s₁ X0 hx hby hml hown hnm hret hlk hZ e0
  refine End.cast ?_ (ef_8 m x0)
  have N0 := Fr.nil n0
  refine k_aloadN X0 hx (q := 1) rfl (hb hby d8_0) rfl rfl ?_
  refine k_getF X0 hx hZ (host := "") hown (Or.inl (hw _ (List.mem_of_getElem? (i := 40) rfl))) Via.refl e0 (q := 4) rfl (hb hby d8_1) F0 ?_
  intro T1 X1 e1
  exact k_retI X1 hx hlk (by decide) (by decide) hret (hb hby d8_4) ⟨rfl, N0, e1⟩
theorem d4_0 : decode prog_23_method_2_code 0 = .ok (.aload_n 0, 1) := by decide +kernel
theorem d4_1 : decode prog_23_method_2_code 1 = .ok (.invokespecial 7, 3) := by decide +kernel
theorem d4_4 : decode prog_23_method_2_code 4 = .ok (.aload_n 0, 1) := by decide +kernel
theorem d4_5 : decode prog_23_method_2_code 5 = .ok (.aload_n 1, 1) := by decide +kernel
theorem d4_6 : decode prog_23_method_2_code 6 = .ok (.putfield 12, 3) := by decide +kernel
theorem d4_9 : decode prog_23_method_2_code 9 = .ok (.aload_n 0, 1) := by decide +kernel
theorem d4_10 : decode prog_23_method_2_code 10 = .ok (.iload_n 2, 1) := by decide +kernel
theorem d4_11 : decode prog_23_method_2_code 11 = .ok (.putfield 16, 3) := by decide +kernel
theorem d4_14 : decode prog_23_method_2_code 14 = .ok (.aload_n 0, 1) := by decide +kernel
theorem d4_15 : decode prog_23_method_2_code 15 = .ok (.iload_n 3, 1) := by decide +kernel
theorem d4_16 : decode prog_23_method_2_code 16 = .ok (.putfield 20, 3) := by decide +kernel
theorem d4_19 : decode prog_23_method_2_code 19 = .ok (.return_, 1) := by decide +kernel
theorem ef_4 (m : MethodId) (x0 : Addr) (x1 : Addr) (x2 : Int32) (x3 : Int32) : entryFrame m #[(.ref x0), (.ref x1), (.int x2), (.int x3)] 4 = mkF m 0 #[.val (.ref x0), .val (.ref x1), .val (.int x2), .val (.int x3)] [] := by first | (simp [entryFrame, mkF, argsToLocals, Value.category]; done) | rfl
set_option maxRecDepth 65536 in
set_option maxHeartbeats 40000000 in
theorem rm4 (l : Launch) (Z : State) (a0 : Array Value) (hw : ∀ d ∈ tables_1, d.before a0 Z = true) (x0 : Addr) (x1 : Addr) (x2 : Int32) (x3 : Int32) (h0 : Heap) (n0 : Nat) (ga : n0 ≤ x0) (E0 : Exa Z h0 x0 "com/example/footwise/footwise/osm/Protobuf") (F1 : Fld Z h0 x0 "com/example/footwise/footwise/osm/Protobuf" "bytes" "[B" .null) (F2 : Fld Z h0 x0 "com/example/footwise/footwise/osm/Protobuf" "position" "I" (.int (0 : Int32))) (F3 : Fld Z h0 x0 "com/example/footwise/footwise/osm/Protobuf" "end" "I" (.int (0 : Int32))) (F4 : Fld Z h0 x0 "com/example/footwise/footwise/osm/Protobuf" "field" "I" (.int (0 : Int32))) (F5 : Fld Z h0 x0 "com/example/footwise/footwise/osm/Protobuf" "wireType" "I" (.int (0 : Int32))) :
    Con l Z (⟨"com/example/footwise/footwise/osm/Protobuf", "<init>", "([BII)V"⟩ : MethodName) prog_23_method_2_code 4 none [] ({ frames := 1, cells := 0, slots := 0, locals := 12 } : Room) #[(.ref x0), (.ref x1), (.int x2), (.int x3)] h0 (fun v h L => v = none ∧ Fr n0 L ∧ Keep h0 h [x0] ∧ own_Pb Z h x0 x1 x2 x3 0 0) := by
  refine Con.of (plainFor_of_name pn_1) ?_
  intro p e s m below meth c s₁ X0 hx hby hml hown hnm hret hlk hZ e0
  refine End.cast ?_ (ef_4 m x0 x1 x2 x3)
  have N0 := Fr.nil n0
  refine k_aloadN X0 hx (q := 1) rfl (hb hby d4_0) rfl rfl ?_
  refine k_initO X0 hx hZ hown (hw _ (List.mem_of_getElem? (i := 21) rfl)) (hw _ (List.mem_of_getElem? (i := 22) rfl)) (hw _ (List.mem_of_getElem? (i := 23) rfl)) e0 (q := 4) rfl (hb hby d4_1) (by rw [hml]; rfl) (by decide) 0 (by first | exact Nat.le_refl _ | simp [Value.category]) (by decide) ?_
  intro T1 X1 e1
  refine k_aloadN X1 hx (q := 5) rfl (hb hby d4_4) rfl rfl ?_
  refine k_aloadN X1 hx (q := 6) rfl (hb hby d4_5) rfl rfl ?_
  refine k_putF X1 hx hZ (host := "") hown (Or.inl (hw _ (List.mem_of_getElem? (i := 24) rfl))) Via.refl e1 (Or.inr ⟨(hw _ (List.mem_of_getElem? (i := 25) rfl)), rfl, hnm⟩) (hw _ (List.mem_of_getElem? (i := 13) rfl)) (ty := (.array .byte)) (by decide) rfl rfl (q := 9) rfl (hb hby d4_6) F1 E0 ?_
  intro T2 h2 X2 e2 W2
  have K2 := Keep.of_wr W2
  have N2 := Fr.snoc X2 N0 ga
  have Fw2 := (F1).same W2
  refine k_aloadN X2 hx (q := 10) rfl (hb hby d4_9) rfl rfl ?_
  refine k_iloadN X2 hx (q := 11) rfl (hb hby d4_10) rfl ?_
  have G3 := (F2.other W2 (Or.inr (slot_ne (t := .int) (t' := (.array .byte)) (Or.inl (hw _ (List.mem_of_getElem? (i := 27) rfl))) (Or.inr (hw _ (List.mem_of_getElem? (i := 25) rfl))) (by decide) (by decide) (by decide))))
  have G4 := (E0.keep K2)
  refine k_putF X2 hx hZ (host := "") hown (Or.inl (hw _ (List.mem_of_getElem? (i := 26) rfl))) Via.refl e2 (Or.inl (hw _ (List.mem_of_getElem? (i := 27) rfl))) (hw _ (List.mem_of_getElem? (i := 13) rfl)) (ty := .int) (by decide) rfl rfl (q := 14) rfl (hb hby d4_11) G3 G4 ?_
  intro T5 h5 X5 e5 W5
  have K5 := Keep.of_wr W5
  have N5 := Fr.snoc X5 N2 ga
  have Fw5 := (G3).same W5
  refine k_aloadN X5 hx (q := 15) rfl (hb hby d4_14) rfl rfl ?_
  refine k_iloadN X5 hx (q := 16) rfl (hb hby d4_15) rfl ?_
  have G6 := ((F3.other W2 (Or.inr (slot_ne (t := .int) (t' := (.array .byte)) (Or.inr (hw _ (List.mem_of_getElem? (i := 29) rfl))) (Or.inr (hw _ (List.mem_of_getElem? (i := 25) rfl))) (by decide) (by decide) (by decide)))).other W5 (Or.inr (slot_ne (t := .int) (t' := .int) (Or.inr (hw _ (List.mem_of_getElem? (i := 29) rfl))) (Or.inl (hw _ (List.mem_of_getElem? (i := 27) rfl))) (by decide) (by decide) (by decide))))
  have G7 := (G4.keep K5)
  refine k_putF X5 hx hZ (host := "") hown (Or.inl (hw _ (List.mem_of_getElem? (i := 28) rfl))) Via.refl e5 (Or.inr ⟨(hw _ (List.mem_of_getElem? (i := 29) rfl)), rfl, hnm⟩) (hw _ (List.mem_of_getElem? (i := 13) rfl)) (ty := .int) (by decide) rfl rfl (q := 19) rfl (hb hby d4_16) G6 G7 ?_
  intro T8 h8 X8 e8 W8
  have K8 := Keep.of_wr W8
  have N8 := Fr.snoc X8 N5 ga
  have Fw8 := (G6).same W8
  have Kp9 : Keep h0 h2 [x0] := Keep.trans (Keep.refl h0 [x0]) K2 (allS (Or.inl (List.mem_of_getElem? (i := 0) rfl)) all0)
  have Kp10 : Keep h0 h5 [x0] := Keep.trans Kp9 K5 (allS (Or.inl (List.mem_of_getElem? (i := 0) rfl)) all0)
  have Kp11 : Keep h0 h8 [x0] := Keep.trans Kp10 K8 (allS (Or.inl (List.mem_of_getElem? (i := 0) rfl)) all0)
  have G12 := (G7.keep K8)
  have G13 := ((Fw2.other W5 (Or.inr (slot_ne (t := (.array .byte)) (t' := .int) (Or.inr (hw _ (List.mem_of_getElem? (i := 25) rfl))) (Or.inl (hw _ (List.mem_of_getElem? (i := 27) rfl))) (by decide) (by decide) (by decide)))).other W8 (Or.inr (slot_ne (t := (.array .byte)) (t' := .int) (Or.inr (hw _ (List.mem_of_getElem? (i := 25) rfl))) (Or.inr (hw _ (List.mem_of_getElem? (i := 29) rfl))) (by decide) (by decide) (by decide))))
  have G14 := (Fw5.other W8 (Or.inr (slot_ne (t := .int) (t' := .int) (Or.inl (hw _ (List.mem_of_getElem? (i := 27) rfl))) (Or.inr (hw _ (List.mem_of_getElem? (i := 29) rfl))) (by decide) (by decide) (by decide))))
  have G15 := (((F4.other W2 (Or.inr (slot_ne (t := .int) (t' := (.array .byte)) (Or.inl (hw _ (List.mem_of_getElem? (i := 41) rfl))) (Or.inr (hw _ (List.mem_of_getElem? (i := 25) rfl))) (by decide) (by decide) (by decide)))).other W5 (Or.inr (slot_ne (t := .int) (t' := .int) (Or.inl (hw _ (List.mem_of_getElem? (i := 41) rfl))) (Or.inl (hw _ (List.mem_of_getElem? (i := 27) rfl))) (by decide) (by decide) (by decide)))).other W8 (Or.inr (slot_ne (t := .int) (t' := .int) (Or.inl (hw _ (List.mem_of_getElem? (i := 41) rfl))) (Or.inr (hw _ (List.mem_of_getElem? (i := 29) rfl))) (by decide) (by decide) (by decide))))
  have G16 := (((F5.other W2 (Or.inr (slot_ne (t := .int) (t' := (.array .byte)) (Or.inl (hw _ (List.mem_of_getElem? (i := 44) rfl))) (Or.inr (hw _ (List.mem_of_getElem? (i := 25) rfl))) (by decide) (by decide) (by decide)))).other W5 (Or.inr (slot_ne (t := .int) (t' := .int) (Or.inl (hw _ (List.mem_of_getElem? (i := 44) rfl))) (Or.inl (hw _ (List.mem_of_getElem? (i := 27) rfl))) (by decide) (by decide) (by decide)))).other W8 (Or.inr (slot_ne (t := .int) (t' := .int) (Or.inl (hw _ (List.mem_of_getElem? (i := 44) rfl))) (Or.inr (hw _ (List.mem_of_getElem? (i := 29) rfl))) (by decide) (by decide) (by decide))))
  exact k_retV X8 hx hlk (by decide) (by decide) hret (hb hby d4_19) ⟨rfl, N8, by rw [e8]; exact Kp11, by rw [e8]; exact ⟨G12, G13, G14, Fw8, G15, G16⟩⟩
theorem d3_0 : decode prog_23_method_1_code 0 = .ok (.aload_n 0, 1) := by decide +kernel
theorem d3_1 : decode prog_23_method_1_code 1 = .ok (.aload_n 1, 1) := by decide +kernel
theorem d3_2 : decode prog_23_method_1_code 2 = .ok (.iconst 0, 1) := by decide +kernel
theorem d3_3 : decode prog_23_method_1_code 3 = .ok (.aload_n 1, 1) := by decide +kernel
theorem d3_4 : decode prog_23_method_1_code 4 = .ok (.arraylength, 1) := by decide +kernel
theorem d3_5 : decode prog_23_method_1_code 5 = .ok (.invokespecial 1, 3) := by decide +kernel
theorem d3_8 : decode prog_23_method_1_code 8 = .ok (.return_, 1) := by decide +kernel
theorem ef_3 (m : MethodId) (x0 : Addr) (x1 : Addr) : entryFrame m #[(.ref x0), (.ref x1)] 2 = mkF m 0 #[.val (.ref x0), .val (.ref x1)] [] := by first | (simp [entryFrame, mkF, argsToLocals, Value.category]; done) | rfl
set_option maxRecDepth 65536 in
set_option maxHeartbeats 40000000 in
theorem rm3 (l : Launch) (Z : State) (a0 : Array Value) (hw : ∀ d ∈ tables_1, d.before a0 Z = true) (x0 : Addr) (x1 : Addr) (h0 : Heap) (n0 : Nat) (ga : n0 ≤ x0) (E0 : Exa Z h0 x0 "com/example/footwise/footwise/osm/Protobuf") (F1 : Fld Z h0 x0 "com/example/footwise/footwise/osm/Protobuf" "bytes" "[B" .null) (F2 : Fld Z h0 x0 "com/example/footwise/footwise/osm/Protobuf" "position" "I" (.int (0 : Int32))) (F3 : Fld Z h0 x0 "com/example/footwise/footwise/osm/Protobuf" "end" "I" (.int (0 : Int32))) (F4 : Fld Z h0 x0 "com/example/footwise/footwise/osm/Protobuf" "field" "I" (.int (0 : Int32))) (F5 : Fld Z h0 x0 "com/example/footwise/footwise/osm/Protobuf" "wireType" "I" (.int (0 : Int32))) (M : Nat) (v : Nat → Value) (V : Ary Z h0 x1 .byte M v) :
    Con l Z (⟨"com/example/footwise/footwise/osm/Protobuf", "<init>", "([B)V"⟩ : MethodName) prog_23_method_1_code 2 none [] ({ frames := 2, cells := 0, slots := 0, locals := 27 } : Room) #[(.ref x0), (.ref x1)] h0 (fun v h L => v = none ∧ Fr n0 L ∧ Keep h0 h [x0] ∧ own_Pb Z h x0 x1 0 M.toInt32 0 0) := by
  refine Con.of (plainFor_of_name pn_1) ?_
  intro p e s m below meth c s₁ X0 hx hby hml hown hnm hret hlk hZ e0
  refine End.cast ?_ (ef_3 m x0 x1)
  have N0 := Fr.nil n0
  refine k_aloadN X0 hx (q := 1) rfl (hb hby d3_0) rfl rfl ?_
  refine k_aloadN X0 hx (q := 2) rfl (hb hby d3_1) rfl rfl ?_
  refine k_iconst X0 hx (v := (0 : Int32)) rfl (q := 3) rfl (hb hby d3_2) ?_
  refine k_aloadN X0 hx (q := 4) rfl (hb hby d3_3) rfl rfl ?_
  refine k_al X0 hx hZ e0 (z := M.toInt32) (q := 5) rfl (hb hby d3_4) V rfl ?_
  refine k_callI X0 hx hZ (y := (⟨"com/example/footwise/footwise/osm/Protobuf", "<init>", "([BII)V"⟩ : MethodName)) hown rfl (hw _ (List.mem_of_getElem? (i := 18) rfl)) (hw _ (List.mem_of_getElem? (i := 19) rfl)) (hw _ (List.mem_of_getElem? (i := 14) rfl)) (hw _ (List.mem_of_getElem? (i := 20) rfl)) (by decide) 0 e0 (rm4 l Z a0 hw x0 x1 (0 : Int32) M.toInt32 h0 n0 ga E0 F1 F2 F3 F4 F5) (by decide) (by decide) (by decide) (by decide) (by rw [hml]; rfl) (a := x0) (as := [(.ref x1), (.int (0 : Int32)), (.int M.toInt32)]) (rest := []) pd_4 rfl (by first | exact Nat.le_refl _ | simp [Value.category]) (q := 8) rfl (hb hby d3_5) ?_
  rintro _ T1 L1 X1 ⟨rfl, N1q, K1, P1⟩
  have N1 := Fr.app N0 N1q
  show End _ _ _ _ _ _ _ (T1.setTop (mkF m 8 #[.val (.ref x0), .val (.ref x1)] []))
  exact k_retV X1 hx hlk (by decide) (by decide) hret (hb hby d3_8) ⟨rfl, N1, K1, P1⟩
theorem own_shr (k : Int64) (hk : 0 ≤ k.toInt) (t : Nat) (ht : t < 10) : ((((k.toUInt64 >>> (((7 : Int32) * t.toInt32) &&& 0x3f).toInt64.toUInt64).toInt64) &&& (127 : Int64)).toInt32).toInt = (k.toInt / 128 ^ t) % 128 := by
  have key : ∀ (y : Int64), ((y &&& (127 : Int64)).toInt32).toInt = y.toInt % 128 := fun y => by
    have m := c_maskL y 127 7 (by decide) (by decide)
    have : ((2 ^ 7 : Nat) : Int) = 128 := by decide
    rw [this] at m
    have e := c_l2i (y &&& (127 : Int64))
    have r := rng32 (y &&& (127 : Int64)).toInt32
    omega
  rw [key]
  have b := rng64 k
  have : t = 0 ∨ t = 1 ∨ t = 2 ∨ t = 3 ∨ t = 4 ∨ t = 5 ∨ t = 6 ∨ t = 7 ∨ t = 8 ∨ t = 9 := by omega
  rcases this with rfl | rfl | rfl | rfl | rfl | rfl | rfl | rfl | rfl | rfl
  · have z : (((7 : Int32) * (0 : Nat).toInt32) &&& 0x3f).toInt64.toUInt64 = 0 := by decide
    rw [z]
    have y : (k.toUInt64 >>> (0 : UInt64)).toInt64 = k := by simp
    rw [y]; simp
  · rw [c_lushr k ((7 : Int32) * (1 : Nat).toInt32) 7 (by decide) (by decide)]
    show k.toInt % 18446744073709551616 / 128 % 128 = k.toInt / 128 % 128
    omega
  · rw [c_lushr k ((7 : Int32) * (2 : Nat).toInt32) 14 (by decide) (by decide)]
    show k.toInt % 18446744073709551616 / 16384 % 128 = k.toInt / 16384 % 128
    omega
  · rw [c_lushr k ((7 : Int32) * (3 : Nat).toInt32) 21 (by decide) (by decide)]
    show k.toInt % 18446744073709551616 / 2097152 % 128 = k.toInt / 2097152 % 128
    omega
  · rw [c_lushr k ((7 : Int32) * (4 : Nat).toInt32) 28 (by decide) (by decide)]
    show k.toInt % 18446744073709551616 / 268435456 % 128 = k.toInt / 268435456 % 128
    omega
  · rw [c_lushr k ((7 : Int32) * (5 : Nat).toInt32) 35 (by decide) (by decide)]
    show k.toInt % 18446744073709551616 / 34359738368 % 128 = k.toInt / 34359738368 % 128
    omega
  · rw [c_lushr k ((7 : Int32) * (6 : Nat).toInt32) 42 (by decide) (by decide)]
    show k.toInt % 18446744073709551616 / 4398046511104 % 128 = k.toInt / 4398046511104 % 128
    omega
  · rw [c_lushr k ((7 : Int32) * (7 : Nat).toInt32) 49 (by decide) (by decide)]
    show k.toInt % 18446744073709551616 / 562949953421312 % 128 = k.toInt / 562949953421312 % 128
    omega
  · rw [c_lushr k ((7 : Int32) * (8 : Nat).toInt32) 56 (by decide) (by decide)]
    show k.toInt % 18446744073709551616 / 72057594037927936 % 128 = k.toInt / 72057594037927936 % 128
    omega
  · rw [c_lushr k ((7 : Int32) * (9 : Nat).toInt32) 63 (by decide) (by decide)]
    show k.toInt % 18446744073709551616 / 9223372036854775808 % 128 = k.toInt / 9223372036854775808 % 128
    omega
theorem own_enc (k : Int64) (hk : 0 ≤ k.toInt) {len : Int32} {n t : Nat} (hl : Ix len n) (hn : n ≤ 10) (ht : t < n) : (nar .byte (f2 k t.toInt32 len)).toInt = if t = n - 1 then (k.toInt / 128 ^ t) % 128 else (k.toInt / 128 ^ t) % 128 - 128 := by
  have it : Ix t.toInt32 t := own_nat (by omega)
  have s := own_shr k hk t (by omega)
  have h1 : t.toInt32 < len := (own_lt it hl).mpr ht
  have d0 := Int.emod_nonneg (k.toInt / 128 ^ t) (show (128 : Int) ≠ 0 by decide)
  have d1 := Int.emod_lt_of_pos (k.toInt / 128 ^ t) (show (0 : Int) < 128 by decide)
  have e1 : Ix (len - (1 : Int32)) (n - 1) := by
    apply Ix.of
    have i := hl.int
    have e := c_isub len 1
    have e1 : (1 : Int32).toInt = 1 := by decide
    have r := rng32 (len - 1)
    have r0 := rng32 len
    omega
  unfold f2
  rw [if_pos h1]
  generalize hz : (((k.toUInt64 >>> (((7 : Int32) * t.toInt32) &&& 0x3f).toInt64.toUInt64).toInt64) &&& (127 : Int64)).toInt32 = z at s
  by_cases q : t = n - 1
  · rw [if_pos ((own_eqi it e1).mpr q), if_pos q]
    show z.toInt8.toInt32.toInt8.toInt32.toInt8.toInt32.toInt = _
    have a := c_i2b z
    have b := c_i2b z.toInt8.toInt32
    have c := c_i2b z.toInt8.toInt32.toInt8.toInt32
    omega
  · rw [if_neg (mt (own_eqi it e1).mp q), if_neg q]
    show (z ||| (128 : Int32)).toInt8.toInt32.toInt8.toInt32.toInt8.toInt32.toInt = _
    have o := c_or' z 128 7 (by decide) 128 (by decide) (by decide) (by omega) (by omega)
    have e8 : (128 : Int32).toInt = 128 := by decide
    have r := rng32 (z ||| 128)
    have a := c_i2b (z ||| (128 : Int32))
    have b := c_i2b (z ||| (128 : Int32)).toInt8.toInt32
    have c := c_i2b (z ||| (128 : Int32)).toInt8.toInt32.toInt8.toInt32
    omega
theorem own_and127 (x : Int32) : (x &&& (127 : Int32)).toInt = x.toInt % 128 := by
  have m := c_mask x 127 7 (by decide) (by decide)
  have : ((2 ^ 7 : Nat) : Int) = 128 := by decide
  rw [this] at m; exact m
theorem own_raw1 (g : Nat → Int32) (p : Nat) : (own_raw g p 1).toInt = (g p).toInt % 128 := by
  have e : own_raw g p 1 = (0 : Int64) ||| ((g (p + 0) &&& (127 : Int32)).toInt64 <<< (((7 : Int32) * (0 : Nat).toInt32) &&& 0x3f).toInt64) := rfl
  have z : (((7 : Int32) * (0 : Nat).toInt32) &&& 0x3f).toInt64 = 0 := by decide
  have y : ∀ x : Int64, x <<< (0 : Int64) = x := fun x => by simp
  rw [e, z, y, Int64.zero_or, c_i2l, own_and127]
  rfl
theorem own_lsh (x : Int64) (t : Nat) (ht : t < 9) (h0 : 0 ≤ x.toInt) (h1 : x.toInt < 128) : (x <<< (((7 : Int32) * t.toInt32) &&& 0x3f).toInt64).toInt = x.toInt * 128 ^ t := by
  have r := rng64 (x <<< (((7 : Int32) * t.toInt32) &&& 0x3f).toInt64)
  have : t = 0 ∨ t = 1 ∨ t = 2 ∨ t = 3 ∨ t = 4 ∨ t = 5 ∨ t = 6 ∨ t = 7 ∨ t = 8 := by omega
  rcases this with rfl | rfl | rfl | rfl | rfl | rfl | rfl | rfl | rfl
  · have e := c_lshl x ((7 : Int32) * (0 : Nat).toInt32) 0 (by decide)
    have p : ((2 ^ 0 : Nat) : Int) = 1 := by decide
    rw [p] at e
    show _ = x.toInt * 1
    omega
  · have e := c_lshl x ((7 : Int32) * (1 : Nat).toInt32) 7 (by decide)
    have p : ((2 ^ 7 : Nat) : Int) = 128 := by decide
    rw [p] at e
    show _ = x.toInt * 128
    omega
  · have e := c_lshl x ((7 : Int32) * (2 : Nat).toInt32) 14 (by decide)
    have p : ((2 ^ 14 : Nat) : Int) = 16384 := by decide
    rw [p] at e
    show _ = x.toInt * 16384
    omega
  · have e := c_lshl x ((7 : Int32) * (3 : Nat).toInt32) 21 (by decide)
    have p : ((2 ^ 21 : Nat) : Int) = 2097152 := by decide
    rw [p] at e
    show _ = x.toInt * 2097152
    omega
  · have e := c_lshl x ((7 : Int32) * (4 : Nat).toInt32) 28 (by decide)
    have p : ((2 ^ 28 : Nat) : Int) = 268435456 := by decide
    rw [p] at e
    show _ = x.toInt * 268435456
    omega
  · have e := c_lshl x ((7 : Int32) * (5 : Nat).toInt32) 35 (by decide)
    have p : ((2 ^ 35 : Nat) : Int) = 34359738368 := by decide
    rw [p] at e
    show _ = x.toInt * 34359738368
    omega
  · have e := c_lshl x ((7 : Int32) * (6 : Nat).toInt32) 42 (by decide)
    have p : ((2 ^ 42 : Nat) : Int) = 4398046511104 := by decide
    rw [p] at e
    show _ = x.toInt * 4398046511104
    omega
  · have e := c_lshl x ((7 : Int32) * (7 : Nat).toInt32) 49 (by decide)
    have p : ((2 ^ 49 : Nat) : Int) = 562949953421312 := by decide
    rw [p] at e
    show _ = x.toInt * 562949953421312
    omega
  · have e := c_lshl x ((7 : Int32) * (8 : Nat).toInt32) 56 (by decide)
    have p : ((2 ^ 56 : Nat) : Int) = 72057594037927936 := by decide
    rw [p] at e
    show _ = x.toInt * 72057594037927936
    omega
theorem own_raws (g : Nat → Int32) (k : Int64) (hk : 0 ≤ k.toInt) (hk2 : k.toInt < 34359738368) (n : Nat) (hn : n ≤ 10) (hg : ∀ t, t < n → (g t).toInt % 128 = (k.toInt / 128 ^ t) % 128) : ∀ i, i ≤ n → (own_raw g 0 i).toInt = k.toInt % 128 ^ i
  | 0, _ => by
    show (0 : Int64).toInt = k.toInt % 1
    have : (0 : Int64).toInt = 0 := by decide
    omega
  | i + 1, h => by
    have ih := own_raws g k hk hk2 n hn hg i (by omega)
    show (own_raw g 0 i ||| ((g (0 + i) &&& (127 : Int32)).toInt64 <<< (((7 : Int32) * i.toInt32) &&& 0x3f).toInt64)).toInt = _
    have d : ((g (0 + i) &&& (127 : Int32)).toInt64).toInt = (k.toInt / 128 ^ i) % 128 := by
      rw [Nat.zero_add, c_i2l, own_and127, hg i (by omega)]
    have d0 := Int.emod_nonneg (k.toInt / 128 ^ i) (show (128 : Int) ≠ 0 by decide)
    have d1 := Int.emod_lt_of_pos (k.toInt / 128 ^ i) (show (0 : Int) < 128 by decide)
    by_cases q : i < 9
    · have s := own_lsh _ i q (by rw [d]; exact d0) (by rw [d]; exact d1)
      rw [d] at s
      generalize ((g (0 + i) &&& (127 : Int32)).toInt64 <<< (((7 : Int32) * i.toInt32) &&& 0x3f).toInt64) = y at s
      generalize own_raw g 0 i = x at ih
      have r := rng64 (x ||| y)
      have : i = 0 ∨ i = 1 ∨ i = 2 ∨ i = 3 ∨ i = 4 ∨ i = 5 ∨ i = 6 ∨ i = 7 ∨ i = 8 := by omega
      rcases this with rfl | rfl | rfl | rfl | rfl | rfl | rfl | rfl | rfl
      · have o := c_orL' x y 0 (by decide) 1 (by decide) (by rw [s]; show k.toInt / 1 % 128 * 1 % 1 = 0; omega) (by rw [ih]; show (0 : Int) ≤ k.toInt % 1; omega) (by rw [ih]; show k.toInt % 1 < 1; omega)
        rw [s, ih] at o
        show _ = k.toInt % 128
        have o : ((x ||| y).toInt - (k.toInt / 1 % 128 * 1 + k.toInt % 1)) % 18446744073709551616 = 0 := o
        omega
      · have o := c_orL' x y 7 (by decide) 128 (by decide) (by rw [s]; show k.toInt / 128 % 128 * 128 % 128 = 0; omega) (by rw [ih]; show (0 : Int) ≤ k.toInt % 128; omega) (by rw [ih]; show k.toInt % 128 < 128; omega)
        rw [s, ih] at o
        show _ = k.toInt % 16384
        have o : ((x ||| y).toInt - (k.toInt / 128 % 128 * 128 + k.toInt % 128)) % 18446744073709551616 = 0 := o
        omega
      · have o := c_orL' x y 14 (by decide) 16384 (by decide) (by rw [s]; show k.toInt / 16384 % 128 * 16384 % 16384 = 0; omega) (by rw [ih]; show (0 : Int) ≤ k.toInt % 16384; omega) (by rw [ih]; show k.toInt % 16384 < 16384; omega)
        rw [s, ih] at o
        show _ = k.toInt % 2097152
        have o : ((x ||| y).toInt - (k.toInt / 16384 % 128 * 16384 + k.toInt % 16384)) % 18446744073709551616 = 0 := o
        omega
      · have o := c_orL' x y 21 (by decide) 2097152 (by decide) (by rw [s]; show k.toInt / 2097152 % 128 * 2097152 % 2097152 = 0; omega) (by rw [ih]; show (0 : Int) ≤ k.toInt % 2097152; omega) (by rw [ih]; show k.toInt % 2097152 < 2097152; omega)
        rw [s, ih] at o
        show _ = k.toInt % 268435456
        have o : ((x ||| y).toInt - (k.toInt / 2097152 % 128 * 2097152 + k.toInt % 2097152)) % 18446744073709551616 = 0 := o
        omega
      · have o := c_orL' x y 28 (by decide) 268435456 (by decide) (by rw [s]; show k.toInt / 268435456 % 128 * 268435456 % 268435456 = 0; omega) (by rw [ih]; show (0 : Int) ≤ k.toInt % 268435456; omega) (by rw [ih]; show k.toInt % 268435456 < 268435456; omega)
        rw [s, ih] at o
        show _ = k.toInt % 34359738368
        have o : ((x ||| y).toInt - (k.toInt / 268435456 % 128 * 268435456 + k.toInt % 268435456)) % 18446744073709551616 = 0 := o
        omega
      · have o := c_orL' x y 35 (by decide) 34359738368 (by decide) (by rw [s]; show k.toInt / 34359738368 % 128 * 34359738368 % 34359738368 = 0; omega) (by rw [ih]; show (0 : Int) ≤ k.toInt % 34359738368; omega) (by rw [ih]; show k.toInt % 34359738368 < 34359738368; omega)
        rw [s, ih] at o
        show _ = k.toInt % 4398046511104
        have o : ((x ||| y).toInt - (k.toInt / 34359738368 % 128 * 34359738368 + k.toInt % 34359738368)) % 18446744073709551616 = 0 := o
        omega
      · have o := c_orL' x y 42 (by decide) 4398046511104 (by decide) (by rw [s]; show k.toInt / 4398046511104 % 128 * 4398046511104 % 4398046511104 = 0; omega) (by rw [ih]; show (0 : Int) ≤ k.toInt % 4398046511104; omega) (by rw [ih]; show k.toInt % 4398046511104 < 4398046511104; omega)
        rw [s, ih] at o
        show _ = k.toInt % 562949953421312
        have o : ((x ||| y).toInt - (k.toInt / 4398046511104 % 128 * 4398046511104 + k.toInt % 4398046511104)) % 18446744073709551616 = 0 := o
        omega
      · have o := c_orL' x y 49 (by decide) 562949953421312 (by decide) (by rw [s]; show k.toInt / 562949953421312 % 128 * 562949953421312 % 562949953421312 = 0; omega) (by rw [ih]; show (0 : Int) ≤ k.toInt % 562949953421312; omega) (by rw [ih]; show k.toInt % 562949953421312 < 562949953421312; omega)
        rw [s, ih] at o
        show _ = k.toInt % 72057594037927936
        have o : ((x ||| y).toInt - (k.toInt / 562949953421312 % 128 * 562949953421312 + k.toInt % 562949953421312)) % 18446744073709551616 = 0 := o
        omega
      · have o := c_orL' x y 56 (by decide) 72057594037927936 (by decide) (by rw [s]; show k.toInt / 72057594037927936 % 128 * 72057594037927936 % 72057594037927936 = 0; omega) (by rw [ih]; show (0 : Int) ≤ k.toInt % 72057594037927936; omega) (by rw [ih]; show k.toInt % 72057594037927936 < 72057594037927936; omega)
        rw [s, ih] at o
        show _ = k.toInt % 9223372036854775808
        have o : ((x ||| y).toInt - (k.toInt / 72057594037927936 % 128 * 72057594037927936 + k.toInt % 72057594037927936)) % 18446744073709551616 = 0 := o
        omega
    · have i9 : i = 9 := by omega
      subst i9
      have z : ((g (0 + 9) &&& (127 : Int32)).toInt64) = 0 := by
        rw [← Int64.toInt_inj, d]
        show (k.toInt / 9223372036854775808) % 128 = (0 : Int64).toInt
        have : (0 : Int64).toInt = 0 := by decide
        omega
      rw [z, show (0 : Int64) <<< (((7 : Int32) * (9 : Nat).toInt32) &&& 0x3f).toInt64 = 0 from by decide, Int64.or_zero, ih]
      show k.toInt % 9223372036854775808 = k.toInt % 1180591620717411303424
      omega
theorem own_whole (g : Nat → Int32) (k : Int64) (hk : 0 ≤ k.toInt) {m n : Nat} (hm : m ≤ 5) (hmk : k.toInt < 128 ^ m) (hmn : m ≤ n) (hn : n ≤ 10) (hg : ∀ t, t < n → (g t).toInt % 128 = (k.toInt / 128 ^ t) % 128) : own_raw g 0 n = k := by
  have b5 : k.toInt < 34359738368 := by
    have : m = 0 ∨ m = 1 ∨ m = 2 ∨ m = 3 ∨ m = 4 ∨ m = 5 := by omega
    rcases this with rfl | rfl | rfl | rfl | rfl | rfl <;> (first | omega | (simp at hmk; omega))
  have e := own_raws g k hk b5 n hn hg n (Nat.le_refl _)
  rw [← Int64.toInt_inj, e]
  apply Int.emod_eq_of_lt hk
  have : (128 : Int) ^ m ≤ 128 ^ n := by
    obtain ⟨j, rfl⟩ := Nat.exists_eq_add_of_le hmn
    rw [Int.pow_add]
    have p0 : (0 : Int) < 128 ^ j := Int.pow_pos (by decide)
    have p1 : (1 : Int) ≤ 128 ^ j := by omega
    have p2 : (0 : Int) < 128 ^ m := Int.pow_pos (by decide)
    calc (128 : Int) ^ m = 128 ^ m * 1 := by omega
      _ ≤ 128 ^ m * 128 ^ j := Int.mul_le_mul_of_nonneg_left p1 (by omega)
  omega
theorem own_nu (x : Int32) : 1 ≤ ((x &&& (2147483647 : Int32)) % (536870911 : Int32) + (1 : Int32)).toInt ∧ ((x &&& (2147483647 : Int32)) % (536870911 : Int32) + (1 : Int32)).toInt ≤ 536870911 := by
  have e := c_mask x 2147483647 31 (by decide) (by decide)
  have p : (0 : Int) ≤ (x &&& (2147483647 : Int32)).toInt := by rw [e]; exact Int.emod_nonneg _ (by decide)
  have r := (c_irem (x &&& (2147483647 : Int32)) 536870911 536870911 (by decide)).1 p
  have a := c_iadd ((x &&& (2147483647 : Int32)) % (536870911 : Int32)) 1
  have e1 : (1 : Int32).toInt = 1 := by decide
  have b := rng32 ((x &&& (2147483647 : Int32)) % (536870911 : Int32) + (1 : Int32))
  omega
theorem own_key {nu : Int32} (h1 : 1 ≤ nu.toInt) (h2 : nu.toInt ≤ 536870911) (w : Int32) (wn : Int) (hw : w.toInt = wn) (h0 : 0 ≤ wn) (h7 : wn < 8) : ((nu.toInt64 <<< ((3 : Int32) &&& 0x3f).toInt64) ||| w.toInt64).toInt = 8 * nu.toInt + wn := by
  have e := c_lshl nu.toInt64 3 3 (by decide)
  have p : ((2 ^ 3 : Nat) : Int) = 8 := by decide
  rw [p, c_i2l] at e
  have r := rng64 (nu.toInt64 <<< ((3 : Int32) &&& 0x3f).toInt64)
  have s : (nu.toInt64 <<< ((3 : Int32) &&& 0x3f).toInt64).toInt = 8 * nu.toInt := by omega
  have o := c_orL (nu.toInt64 <<< ((3 : Int32) &&& 0x3f).toInt64) w.toInt64 3 (by decide) 8 (by decide) (by rw [s]; omega) (by rw [c_i2l, hw]; exact h0) (by rw [c_i2l, hw]; exact h7)
  rw [s, c_i2l, hw] at o
  have r2 := rng64 ((nu.toInt64 <<< ((3 : Int32) &&& 0x3f).toInt64) ||| w.toInt64)
  omega
theorem own_mn {k : Int64} (h : k.toInt < 34359738368) : ∃ m, 1 ≤ m ∧ m ≤ 5 ∧ Ix (f1 k) m ∧ k.toInt < 128 ^ m := by
  have c1 : (128 : Int64).toInt = 128 := by decide
  have c2 : (16384 : Int64).toInt = 16384 := by decide
  have c3 : (2097152 : Int64).toInt = 2097152 := by decide
  have c4 : (268435456 : Int64).toInt = 268435456 := by decide
  unfold f1
  by_cases q1 : k < (128 : Int64)
  · rw [if_pos q1]; exact ⟨1, by decide, by decide, ⟨by decide, by decide⟩, by rw [Int64.lt_iff_toInt_lt] at q1; show k.toInt < 128; omega⟩
  rw [if_neg q1]
  by_cases q2 : k < (16384 : Int64)
  · rw [if_pos q2]; exact ⟨2, by decide, by decide, ⟨by decide, by decide⟩, by rw [Int64.lt_iff_toInt_lt] at q2; show k.toInt < 16384; omega⟩
  rw [if_neg q2]
  by_cases q3 : k < (2097152 : Int64)
  · rw [if_pos q3]; exact ⟨3, by decide, by decide, ⟨by decide, by decide⟩, by rw [Int64.lt_iff_toInt_lt] at q3; show k.toInt < 2097152; omega⟩
  rw [if_neg q3]
  by_cases q4 : k < (268435456 : Int64)
  · rw [if_pos q4]; exact ⟨4, by decide, by decide, ⟨by decide, by decide⟩, by rw [Int64.lt_iff_toInt_lt] at q4; show k.toInt < 268435456; omega⟩
  rw [if_neg q4]; exact ⟨5, by decide, by decide, ⟨by decide, by decide⟩, by show k.toInt < 34359738368; omega⟩
theorem own_len (x : Int32) {mn : Int32} {m : Nat} (h : Ix mn m) (h1 : 1 ≤ m) (h5 : m ≤ 5) : ¬ ((11 : Int32) - mn) = 0 ∧ ∃ n, m ≤ n ∧ n ≤ 10 ∧ Ix (mn + (x &&& (2147483647 : Int32)) % ((11 : Int32) - mn)) n := by
  have e := c_mask x 2147483647 31 (by decide) (by decide)
  have p : (0 : Int) ≤ (x &&& (2147483647 : Int32)).toInt := by rw [e]; exact Int.emod_nonneg _ (by decide)
  have i := h.int
  have s := c_isub 11 mn
  have e11 : (11 : Int32).toInt = 11 := by decide
  have rs := rng32 ((11 : Int32) - mn)
  have q : ((11 : Int32) - mn).toInt = 11 - (m : Int) := by omega
  have r := (c_irem (x &&& (2147483647 : Int32)) ((11 : Int32) - mn) (11 - (m : Int)) q).1 p
  have r0 := Int.emod_nonneg (x &&& (2147483647 : Int32)).toInt (show (11 - (m : Int)) ≠ 0 by omega)
  have r1 := Int.emod_lt_of_pos (x &&& (2147483647 : Int32)).toInt (show (0 : Int) < 11 - (m : Int) by omega)
  have a := c_iadd mn ((x &&& (2147483647 : Int32)) % ((11 : Int32) - mn))
  have b := rng32 (mn + (x &&& (2147483647 : Int32)) % ((11 : Int32) - mn))
  refine ⟨fun z => ?_, (mn + (x &&& (2147483647 : Int32)) % ((11 : Int32) - mn)).toInt.toNat, ?_, ?_, Ix.of ?_⟩
  · rw [← Int32.toInt_inj, q] at z
    have : (0 : Int32).toInt = 0 := by decide
    omega
  all_goals omega
theorem own_3 {k : Int64} (hk : 0 ≤ k.toInt) : ((k.toUInt64 >>> ((3 : Int32) &&& 0x3f).toInt64.toUInt64).toInt64).toInt = k.toInt / 8 := by
  rw [c_lushr k 3 3 (by decide) (by decide)]
  have r := rng64 k
  show k.toInt % 18446744073709551616 / 8 = _
  omega
theorem own_7 (k : Int64) : ((k &&& (7 : Int64)).toInt32).toInt = k.toInt % 8 := by
  have m := c_maskL k 7 3 (by decide) (by decide)
  have : ((2 ^ 3 : Nat) : Int) = 8 := by decide
  rw [this] at m
  have e := c_l2i (k &&& (7 : Int64))
  have r := rng32 (k &&& (7 : Int64)).toInt32
  omega
theorem own_fields {k : Int64} {nu w : Int32} (hk : k.toInt = 8 * nu.toInt + w.toInt) (h1 : 1 ≤ nu.toInt) (h2 : nu.toInt ≤ 536870911) (hw : 0 ≤ w.toInt) (hw8 : w.toInt < 8) :
    ¬ ((k.toUInt64 >>> ((3 : Int32) &&& 0x3f).toInt64.toUInt64).toInt64) < (1 : Int64) ∧ ¬ (536870911 : Int64) < ((k.toUInt64 >>> ((3 : Int32) &&& 0x3f).toInt64.toUInt64).toInt64) ∧ ((k.toUInt64 >>> ((3 : Int32) &&& 0x3f).toInt64.toUInt64).toInt64).toInt32 = nu ∧ (k &&& (7 : Int64)).toInt32 = w := by
  have e3 := own_3 (k := k) (by omega)
  have e7 := own_7 k
  have l := c_l2i ((k.toUInt64 >>> ((3 : Int32) &&& 0x3f).toInt64.toUInt64).toInt64)
  have r := rng32 ((k.toUInt64 >>> ((3 : Int32) &&& 0x3f).toInt64.toUInt64).toInt64).toInt32
  have c1 : (1 : Int64).toInt = 1 := by decide
  have c2 : (536870911 : Int64).toInt = 536870911 := by decide
  refine ⟨?_, ?_, ?_, ?_⟩
  · rw [Int64.lt_iff_toInt_lt]; omega
  · rw [Int64.lt_iff_toInt_lt]; omega
  · rw [← Int32.toInt_inj]; omega
  · rw [← Int32.toInt_inj]; omega
theorem own_nb (x : Int32) : ((nar .byte x).toInt - x.toInt) % 256 = 0 ∧ -128 ≤ (nar .byte x).toInt ∧ (nar .byte x).toInt < 128 := c_i2b x
theorem own_dec {x : Int32} {n : Nat} (h : Ix x (n + 1)) (hn : n < 1000) : Ix (x - (1 : Int32)) n := by
  apply Ix.of
  have i := h.int
  have e := c_isub x 1
  have e1 : (1 : Int32).toInt = 1 := by decide
  have r := rng32 (x - 1)
  omega
theorem own_mask7 (x : Int32) : ∃ t, t < 8 ∧ Ix (x &&& (7 : Int32)) t := by
  have e := c_mask x 7 3 (by decide) (by decide)
  have : ((2 ^ 3 : Nat) : Int) = 8 := by decide
  rw [this] at e
  refine ⟨(x &&& (7 : Int32)).toInt.toNat, ?_, Ix.of ?_⟩ <;> omega
theorem ef_0 (m : MethodId) (x0 : Int32) (x1 : Int32) (x2 : Int32) (x3 : Int32) : entryFrame m #[(.int x0), (.int x1), (.int x2), (.int x3)] maxLocals = mkF m 0 #[.val (.int x0), .val (.int x1), .val (.int x2), .val (.int x3), .unset, .unset, .unset, .unset, .unset, .unset, .unset, .unset, .unset, .unset, .unset, .unset, .unset, .unset, .unset, .unset, .unset, .unset, .unset] [] := by first | (simp [entryFrame, mkF, argsToLocals, Value.category, maxLocals]; done) | rfl
set_option maxRecDepth 65536 in
set_option maxHeartbeats 40000000 in
theorem rmL (l : Launch) (Z : State) (a0 : Array Value) (hw : ∀ d ∈ tables_1, d.before a0 Z = true) (x0 : Int32) (x1 : Int32) (x2 : Int32) (x3 : Int32) (h0 : Heap) (n0 : Nat) (Z0 : n0 ≤ h0.size) :
    Con l Z x code maxLocals ret tables_1 room_1 #[(.int x0), (.int x1), (.int x2), (.int x3)] h0 (fun v h L => v = some (.int 1) ∧ Fr n0 L) := by
  refine Con.of (plainFor_of_name pn_0) ?_
  intro p e s m below meth c s₁ X0 hx hby hml hown hnm hret hlk hZ e0
  refine End.cast ?_ (ef_0 m x0 x1 x2 x3)
  have N0 := Fr.nil n0
  refine k_iloadN X0 hx (q := 1) rfl (hb hby at_0) rfl ?_
  refine k_ldcI X0 hx hZ (v := (2147483647 : Int32)) hown (hw _ (List.mem_of_getElem? (i := 0) rfl)) (q := 3) rfl (hb hby at_1) ?_
  refine k_iand X0 hx (q := 4) rfl (hb hby at_3) ?_
  refine k_ldcI X0 hx hZ (v := (536870911 : Int32)) hown (hw _ (List.mem_of_getElem? (i := 1) rfl)) (q := 6) rfl (hb hby at_4) ?_
  refine k_irem X0 hx (q := 7) rfl (hb hby at_6) (by decide) ?_
  refine k_iconst X0 hx (v := (1 : Int32)) rfl (q := 8) rfl (hb hby at_7) ?_
  refine k_iadd X0 hx (q := 9) rfl (hb hby at_8) ?_
  refine k_istore X0 hx (L' := #[.val (.int x0), .val (.int x1), .val (.int x2), .val (.int x3), .val (.int (((x0 &&& (2147483647 : Int32)) % (536870911 : Int32)) + (1 : Int32))), .unset, .unset, .unset, .unset, .unset, .unset, .unset, .unset, .unset, .unset, .unset, .unset, .unset, .unset, .unset, .unset, .unset, .unset]) (q := 11) rfl (hb hby at_9) rfl ?_
  obtain ⟨hnu1, hnu2⟩ := own_nu x0
  generalize hnu : (((x0 &&& (2147483647 : Int32)) % (536870911 : Int32)) + (1 : Int32)) = nu
  rw [hnu] at hnu1 hnu2
  refine k_iloadN X0 hx (q := 12) rfl (hb hby at_11) rfl ?_
  refine k_iconst X0 hx (v := (3 : Int32)) rfl (q := 13) rfl (hb hby at_12) ?_
  refine k_iand X0 hx (q := 14) rfl (hb hby at_13) ?_
  refine k_istore X0 hx (L' := #[.val (.int x0), .val (.int x1), .val (.int x2), .val (.int x3), .val (.int nu), .val (.int (x1 &&& (3 : Int32))), .unset, .unset, .unset, .unset, .unset, .unset, .unset, .unset, .unset, .unset, .unset, .unset, .unset, .unset, .unset, .unset, .unset]) (q := 16) rfl (hb hby at_14) rfl ?_
  generalize hsel : (x1 &&& (3 : Int32)) = sel
  refine k_iload X0 hx (q := 18) rfl (hb hby at_16) rfl ?_
  refine k_if_ne X0 hx (q1 := 25) (q := 21) (by decide) (by decide) rfl (hb hby at_18) (fun hc1 => ?_) (fun hc1 => ?_)
  · refine k_iload X0 hx (q := 27) rfl (hb hby at_25) rfl ?_
    refine k_iconst X0 hx (v := (1 : Int32)) rfl (q := 28) rfl (hb hby at_27) ?_
    refine k_icmp_ne X0 hx (q1 := 35) (q := 31) (by decide) (by decide) rfl (hb hby at_28) (fun hc90 => ?_) (fun hc90 => ?_)
    · refine k_iload X0 hx (q := 37) rfl (hb hby at_35) rfl ?_
      refine k_iconst X0 hx (v := (2 : Int32)) rfl (q := 38) rfl (hb hby at_37) ?_
      refine k_icmp_ne X0 hx (q1 := 45) (q := 41) (by decide) (by decide) rfl (hb hby at_38) (fun hc180 => ?_) (fun hc180 => ?_)
      · refine k_iconst X0 hx (v := (5 : Int32)) rfl (q := 46) rfl (hb hby at_45) ?_
        refine k_istore X0 hx (L' := #[.val (.int x0), .val (.int x1), .val (.int x2), .val (.int x3), .val (.int nu), .val (.int sel), .val (.int (5 : Int32)), .unset, .unset, .unset, .unset, .unset, .unset, .unset, .unset, .unset, .unset, .unset, .unset, .unset, .unset, .unset, .unset]) (q := 48) rfl (hb hby at_46) rfl ?_
        refine k_iload X0 hx (q := 50) rfl (hb hby at_48) rfl ?_
        refine k_i2l X0 hx (q := 51) rfl (hb hby at_50) ?_
        refine k_iconst X0 hx (v := (3 : Int32)) rfl (q := 52) rfl (hb hby at_51) ?_
        refine k_lshl X0 hx (q := 53) rfl (hb hby at_52) ?_
        refine k_iload X0 hx (q := 55) rfl (hb hby at_53) rfl ?_
        refine k_i2l X0 hx (q := 56) rfl (hb hby at_55) ?_
        refine k_lor X0 hx (q := 57) rfl (hb hby at_56) ?_
        refine k_lstore X0 hx (L' := #[.val (.int x0), .val (.int x1), .val (.int x2), .val (.int x3), .val (.int nu), .val (.int sel), .val (.int (5 : Int32)), .val (.long ((nu.toInt64 <<< ((3 : Int32) &&& 0x3f).toInt64) ||| (5 : Int32).toInt64)), .second, .unset, .unset, .unset, .unset, .unset, .unset, .unset, .unset, .unset, .unset, .unset, .unset, .unset, .unset]) (q := 59) rfl (hb hby at_57) rfl ?_
        have hky := own_key hnu1 hnu2 (5 : Int32) 5 (by decide) (by decide) (by decide)
        generalize hk0 : ((nu.toInt64 <<< ((3 : Int32) &&& 0x3f).toInt64) ||| (5 : Int32).toInt64) = ky
        rw [hk0] at hky
        refine k_lload X0 hx (q := 61) rfl (hb hby at_59) rfl ?_
        refine k_callS X0 hx hZ (y := (⟨"com/example/footwise/footwise/osm/ProtobufNextPinLaw", "minLen", "(J)I"⟩ : MethodName)) hown (hw _ (List.mem_of_getElem? (i := 2) rfl)) (hw _ (List.mem_of_getElem? (i := 3) rfl)) (hw _ (List.mem_of_getElem? (i := 4) rfl)) (hw _ (List.mem_of_getElem? (i := 5) rfl)) (by decide) 0 e0 (rm1 l Z a0 hw ky h0 n0) (by decide) (by decide) (by decide) (by decide) (by rw [hml]; rfl) (as := [(.long ky)]) (rest := []) pd_5 rfl (by first | exact Nat.le_refl _ | simp [Value.category]) (q := 64) rfl (hb hby at_61) ?_
        rintro _ T269 L269 X269 ⟨rfl, N269q, e269⟩
        have N269 := Fr.app N0 N269q
        show End _ _ _ _ _ _ _ (T269.setTop (mkF m 64 #[.val (.int x0), .val (.int x1), .val (.int x2), .val (.int x3), .val (.int nu), .val (.int sel), .val (.int (5 : Int32)), .val (.long ky), .second, .unset, .unset, .unset, .unset, .unset, .unset, .unset, .unset, .unset, .unset, .unset, .unset, .unset, .unset] [(.int (f1 ky))]))
        obtain ⟨m', hm1, hm5, hmn, hmk⟩ := own_mn (k := ky) (by omega)
        refine k_istore X269 hx (L' := #[.val (.int x0), .val (.int x1), .val (.int x2), .val (.int x3), .val (.int nu), .val (.int sel), .val (.int (5 : Int32)), .val (.long ky), .second, .val (.int (f1 ky)), .unset, .unset, .unset, .unset, .unset, .unset, .unset, .unset, .unset, .unset, .unset, .unset, .unset]) (q := 66) rfl (hb hby at_64) rfl ?_
        generalize hmn0 : (f1 ky) = mn
        rw [hmn0] at hmn
        obtain ⟨hnz, n, hmn', hn10, hlen⟩ := own_len x3 hmn hm1 hm5
        refine k_iload X269 hx (q := 68) rfl (hb hby at_66) rfl ?_
        refine k_iloadN X269 hx (q := 69) rfl (hb hby at_68) rfl ?_
        refine k_ldcI X269 hx hZ (v := (2147483647 : Int32)) hown (hw _ (List.mem_of_getElem? (i := 0) rfl)) (q := 71) rfl (hb hby at_69) ?_
        refine k_iand X269 hx (q := 72) rfl (hb hby at_71) ?_
        refine k_bipush X269 hx (v := (11 : Int32)) rfl (q := 74) rfl (hb hby at_72) ?_
        refine k_iload X269 hx (q := 76) rfl (hb hby at_74) rfl ?_
        refine k_isub X269 hx (q := 77) rfl (hb hby at_76) ?_
        refine k_irem X269 hx (q := 78) rfl (hb hby at_77) hnz ?_
        refine k_iadd X269 hx (q := 79) rfl (hb hby at_78) ?_
        refine k_istore X269 hx (L' := #[.val (.int x0), .val (.int x1), .val (.int x2), .val (.int x3), .val (.int nu), .val (.int sel), .val (.int (5 : Int32)), .val (.long ky), .second, .val (.int mn), .val (.int (mn + ((x3 &&& (2147483647 : Int32)) % ((11 : Int32) - mn)))), .unset, .unset, .unset, .unset, .unset, .unset, .unset, .unset, .unset, .unset, .unset, .unset]) (q := 81) rfl (hb hby at_79) rfl ?_
        generalize hln : (mn + ((x3 &&& (2147483647 : Int32)) % ((11 : Int32) - mn))) = len
        rw [hln] at hlen
        refine k_bipush X269 hx (v := (32 : Int32)) rfl (q := 83) rfl (hb hby at_81) ?_
        refine k_newP X269 hx hZ (hw _ (List.mem_of_getElem? (i := 7) rfl)) e269 (q := 85) rfl (hb hby at_83) (by decide) (cap := 32) (by decide) (by decide) (by decide) (by decide) ?_
        intro T270 h270 ar k270 X270 e270 g270 E270 A270
        have K270 := Keep.of_ext E270
        have V270 : Ary Z h270 ar .byte 32 (fun _ => .int (0 : Int32)) := Ary.new A270 (by decide) rfl
        refine k_astore X270 hx (L' := #[.val (.int x0), .val (.int x1), .val (.int x2), .val (.int x3), .val (.int nu), .val (.int sel), .val (.int (5 : Int32)), .val (.long ky), .second, .val (.int mn), .val (.int len), .val (.ref ar), .unset, .unset, .unset, .unset, .unset, .unset, .unset, .unset, .unset, .unset, .unset]) (q := 87) rfl (hb hby at_85) rfl rfl ?_
        refine k_aload X270 hx (q := 89) rfl (hb hby at_87) rfl rfl ?_
        refine k_iconst X270 hx (v := (0 : Int32)) rfl (q := 90) rfl (hb hby at_89) ?_
        refine k_lload X270 hx (q := 92) rfl (hb hby at_90) rfl ?_
        refine k_iconst X270 hx (v := (0 : Int32)) rfl (q := 93) rfl (hb hby at_92) ?_
        refine k_iload X270 hx (q := 95) rfl (hb hby at_93) rfl ?_
        refine k_callS X270 hx hZ (y := (⟨"com/example/footwise/footwise/osm/ProtobufNextPinLaw", "enc", "(JII)B"⟩ : MethodName)) hown (hw _ (List.mem_of_getElem? (i := 8) rfl)) (hw _ (List.mem_of_getElem? (i := 9) rfl)) (hw _ (List.mem_of_getElem? (i := 4) rfl)) (hw _ (List.mem_of_getElem? (i := 10) rfl)) (by decide) 2 e270 (rm2 l Z a0 hw ky (0 : Int32) len h270 n0) (by decide) (by decide) (by decide) (by decide) (by rw [hml]; rfl) (as := [(.long ky), (.int (0 : Int32)), (.int len)]) (rest := [(.int (0 : Int32)), (.ref ar)]) pd_6 rfl (by first | exact Nat.le_refl _ | simp [Value.category]) (q := 98) rfl (hb hby at_95) ?_
        rintro _ T271 L271 X271 ⟨rfl, N271q, e271⟩
        have N271 := Fr.app N269 N271q
        show End _ _ _ _ _ _ _ (T271.setTop (mkF m 98 #[.val (.int x0), .val (.int x1), .val (.int x2), .val (.int x3), .val (.int nu), .val (.int sel), .val (.int (5 : Int32)), .val (.long ky), .second, .val (.int mn), .val (.int len), .val (.ref ar), .unset, .unset, .unset, .unset, .unset, .unset, .unset, .unset, .unset, .unset, .unset] [(.int (f2 ky (0 : Int32) len)), (.int (0 : Int32)), (.ref ar)]))
        have ge_ar : n0 ≤ ar := Nat.le_trans Z0 (Nat.le_of_eq g270.symm)
        refine k_asB X271 hx hZ e271 0 (q := 99) rfl (hb hby at_98) V270 ⟨by decide, by decide⟩ (by decide) ?_
        intro T272 h272 X272 e272 W272 V272
        have K272 := Keep.of_wr W272
        have N272 := Fr.snoc X272 N271 ge_ar
        refine k_aload X272 hx (q := 101) rfl (hb hby at_99) rfl rfl ?_
        refine k_iconst X272 hx (v := (1 : Int32)) rfl (q := 102) rfl (hb hby at_101) ?_
        refine k_lload X272 hx (q := 104) rfl (hb hby at_102) rfl ?_
        refine k_iconst X272 hx (v := (1 : Int32)) rfl (q := 105) rfl (hb hby at_104) ?_
        refine k_iload X272 hx (q := 107) rfl (hb hby at_105) rfl ?_
        refine k_callS X272 hx hZ (y := (⟨"com/example/footwise/footwise/osm/ProtobufNextPinLaw", "enc", "(JII)B"⟩ : MethodName)) hown (hw _ (List.mem_of_getElem? (i := 8) rfl)) (hw _ (List.mem_of_getElem? (i := 9) rfl)) (hw _ (List.mem_of_getElem? (i := 4) rfl)) (hw _ (List.mem_of_getElem? (i := 10) rfl)) (by decide) 2 e272 (rm2 l Z a0 hw ky (1 : Int32) len h272 n0) (by decide) (by decide) (by decide) (by decide) (by rw [hml]; rfl) (as := [(.long ky), (.int (1 : Int32)), (.int len)]) (rest := [(.int (1 : Int32)), (.ref ar)]) pd_6 rfl (by first | exact Nat.le_refl _ | simp [Value.category]) (q := 110) rfl (hb hby at_107) ?_
        rintro _ T273 L273 X273 ⟨rfl, N273q, e273⟩
        have N273 := Fr.app N272 N273q
        show End _ _ _ _ _ _ _ (T273.setTop (mkF m 110 #[.val (.int x0), .val (.int x1), .val (.int x2), .val (.int x3), .val (.int nu), .val (.int sel), .val (.int (5 : Int32)), .val (.long ky), .second, .val (.int mn), .val (.int len), .val (.ref ar), .unset, .unset, .unset, .unset, .unset, .unset, .unset, .unset, .unset, .unset, .unset] [(.int (f2 ky (1 : Int32) len)), (.int (1 : Int32)), (.ref ar)]))
        refine k_asB X273 hx hZ e273 1 (q := 111) rfl (hb hby at_110) V272 ⟨by decide, by decide⟩ (by decide) ?_
        intro T274 h274 X274 e274 W274 V274
        have K274 := Keep.of_wr W274
        have N274 := Fr.snoc X274 N273 ge_ar
        refine k_aload X274 hx (q := 113) rfl (hb hby at_111) rfl rfl ?_
        refine k_iconst X274 hx (v := (2 : Int32)) rfl (q := 114) rfl (hb hby at_113) ?_
        refine k_lload X274 hx (q := 116) rfl (hb hby at_114) rfl ?_
        refine k_iconst X274 hx (v := (2 : Int32)) rfl (q := 117) rfl (hb hby at_116) ?_
        refine k_iload X274 hx (q := 119) rfl (hb hby at_117) rfl ?_
        refine k_callS X274 hx hZ (y := (⟨"com/example/footwise/footwise/osm/ProtobufNextPinLaw", "enc", "(JII)B"⟩ : MethodName)) hown (hw _ (List.mem_of_getElem? (i := 8) rfl)) (hw _ (List.mem_of_getElem? (i := 9) rfl)) (hw _ (List.mem_of_getElem? (i := 4) rfl)) (hw _ (List.mem_of_getElem? (i := 10) rfl)) (by decide) 2 e274 (rm2 l Z a0 hw ky (2 : Int32) len h274 n0) (by decide) (by decide) (by decide) (by decide) (by rw [hml]; rfl) (as := [(.long ky), (.int (2 : Int32)), (.int len)]) (rest := [(.int (2 : Int32)), (.ref ar)]) pd_6 rfl (by first | exact Nat.le_refl _ | simp [Value.category]) (q := 122) rfl (hb hby at_119) ?_
        rintro _ T275 L275 X275 ⟨rfl, N275q, e275⟩
        have N275 := Fr.app N274 N275q
        show End _ _ _ _ _ _ _ (T275.setTop (mkF m 122 #[.val (.int x0), .val (.int x1), .val (.int x2), .val (.int x3), .val (.int nu), .val (.int sel), .val (.int (5 : Int32)), .val (.long ky), .second, .val (.int mn), .val (.int len), .val (.ref ar), .unset, .unset, .unset, .unset, .unset, .unset, .unset, .unset, .unset, .unset, .unset] [(.int (f2 ky (2 : Int32) len)), (.int (2 : Int32)), (.ref ar)]))
        refine k_asB X275 hx hZ e275 2 (q := 123) rfl (hb hby at_122) V274 ⟨by decide, by decide⟩ (by decide) ?_
        intro T276 h276 X276 e276 W276 V276
        have K276 := Keep.of_wr W276
        have N276 := Fr.snoc X276 N275 ge_ar
        refine k_aload X276 hx (q := 125) rfl (hb hby at_123) rfl rfl ?_
        refine k_iconst X276 hx (v := (3 : Int32)) rfl (q := 126) rfl (hb hby at_125) ?_
        refine k_lload X276 hx (q := 128) rfl (hb hby at_126) rfl ?_
        refine k_iconst X276 hx (v := (3 : Int32)) rfl (q := 129) rfl (hb hby at_128) ?_
        refine k_iload X276 hx (q := 131) rfl (hb hby at_129) rfl ?_
        refine k_callS X276 hx hZ (y := (⟨"com/example/footwise/footwise/osm/ProtobufNextPinLaw", "enc", "(JII)B"⟩ : MethodName)) hown (hw _ (List.mem_of_getElem? (i := 8) rfl)) (hw _ (List.mem_of_getElem? (i := 9) rfl)) (hw _ (List.mem_of_getElem? (i := 4) rfl)) (hw _ (List.mem_of_getElem? (i := 10) rfl)) (by decide) 2 e276 (rm2 l Z a0 hw ky (3 : Int32) len h276 n0) (by decide) (by decide) (by decide) (by decide) (by rw [hml]; rfl) (as := [(.long ky), (.int (3 : Int32)), (.int len)]) (rest := [(.int (3 : Int32)), (.ref ar)]) pd_6 rfl (by first | exact Nat.le_refl _ | simp [Value.category]) (q := 134) rfl (hb hby at_131) ?_
        rintro _ T277 L277 X277 ⟨rfl, N277q, e277⟩
        have N277 := Fr.app N276 N277q
        show End _ _ _ _ _ _ _ (T277.setTop (mkF m 134 #[.val (.int x0), .val (.int x1), .val (.int x2), .val (.int x3), .val (.int nu), .val (.int sel), .val (.int (5 : Int32)), .val (.long ky), .second, .val (.int mn), .val (.int len), .val (.ref ar), .unset, .unset, .unset, .unset, .unset, .unset, .unset, .unset, .unset, .unset, .unset] [(.int (f2 ky (3 : Int32) len)), (.int (3 : Int32)), (.ref ar)]))
        refine k_asB X277 hx hZ e277 3 (q := 135) rfl (hb hby at_134) V276 ⟨by decide, by decide⟩ (by decide) ?_
        intro T278 h278 X278 e278 W278 V278
        have K278 := Keep.of_wr W278
        have N278 := Fr.snoc X278 N277 ge_ar
        refine k_aload X278 hx (q := 137) rfl (hb hby at_135) rfl rfl ?_
        refine k_iconst X278 hx (v := (4 : Int32)) rfl (q := 138) rfl (hb hby at_137) ?_
        refine k_lload X278 hx (q := 140) rfl (hb hby at_138) rfl ?_
        refine k_iconst X278 hx (v := (4 : Int32)) rfl (q := 141) rfl (hb hby at_140) ?_
        refine k_iload X278 hx (q := 143) rfl (hb hby at_141) rfl ?_
        refine k_callS X278 hx hZ (y := (⟨"com/example/footwise/footwise/osm/ProtobufNextPinLaw", "enc", "(JII)B"⟩ : MethodName)) hown (hw _ (List.mem_of_getElem? (i := 8) rfl)) (hw _ (List.mem_of_getElem? (i := 9) rfl)) (hw _ (List.mem_of_getElem? (i := 4) rfl)) (hw _ (List.mem_of_getElem? (i := 10) rfl)) (by decide) 2 e278 (rm2 l Z a0 hw ky (4 : Int32) len h278 n0) (by decide) (by decide) (by decide) (by decide) (by rw [hml]; rfl) (as := [(.long ky), (.int (4 : Int32)), (.int len)]) (rest := [(.int (4 : Int32)), (.ref ar)]) pd_6 rfl (by first | exact Nat.le_refl _ | simp [Value.category]) (q := 146) rfl (hb hby at_143) ?_
        rintro _ T279 L279 X279 ⟨rfl, N279q, e279⟩
        have N279 := Fr.app N278 N279q
        show End _ _ _ _ _ _ _ (T279.setTop (mkF m 146 #[.val (.int x0), .val (.int x1), .val (.int x2), .val (.int x3), .val (.int nu), .val (.int sel), .val (.int (5 : Int32)), .val (.long ky), .second, .val (.int mn), .val (.int len), .val (.ref ar), .unset, .unset, .unset, .unset, .unset, .unset, .unset, .unset, .unset, .unset, .unset] [(.int (f2 ky (4 : Int32) len)), (.int (4 : Int32)), (.ref ar)]))
        refine k_asB X279 hx hZ e279 4 (q := 147) rfl (hb hby at_146) V278 ⟨by decide, by decide⟩ (by decide) ?_
        intro T280 h280 X280 e280 W280 V280
        have K280 := Keep.of_wr W280
        have N280 := Fr.snoc X280 N279 ge_ar
        refine k_aload X280 hx (q := 149) rfl (hb hby at_147) rfl rfl ?_
        refine k_iconst X280 hx (v := (5 : Int32)) rfl (q := 150) rfl (hb hby at_149) ?_
        refine k_lload X280 hx (q := 152) rfl (hb hby at_150) rfl ?_
        refine k_iconst X280 hx (v := (5 : Int32)) rfl (q := 153) rfl (hb hby at_152) ?_
        refine k_iload X280 hx (q := 155) rfl (hb hby at_153) rfl ?_
        refine k_callS X280 hx hZ (y := (⟨"com/example/footwise/footwise/osm/ProtobufNextPinLaw", "enc", "(JII)B"⟩ : MethodName)) hown (hw _ (List.mem_of_getElem? (i := 8) rfl)) (hw _ (List.mem_of_getElem? (i := 9) rfl)) (hw _ (List.mem_of_getElem? (i := 4) rfl)) (hw _ (List.mem_of_getElem? (i := 10) rfl)) (by decide) 2 e280 (rm2 l Z a0 hw ky (5 : Int32) len h280 n0) (by decide) (by decide) (by decide) (by decide) (by rw [hml]; rfl) (as := [(.long ky), (.int (5 : Int32)), (.int len)]) (rest := [(.int (5 : Int32)), (.ref ar)]) pd_6 rfl (by first | exact Nat.le_refl _ | simp [Value.category]) (q := 158) rfl (hb hby at_155) ?_
        rintro _ T281 L281 X281 ⟨rfl, N281q, e281⟩
        have N281 := Fr.app N280 N281q
        show End _ _ _ _ _ _ _ (T281.setTop (mkF m 158 #[.val (.int x0), .val (.int x1), .val (.int x2), .val (.int x3), .val (.int nu), .val (.int sel), .val (.int (5 : Int32)), .val (.long ky), .second, .val (.int mn), .val (.int len), .val (.ref ar), .unset, .unset, .unset, .unset, .unset, .unset, .unset, .unset, .unset, .unset, .unset] [(.int (f2 ky (5 : Int32) len)), (.int (5 : Int32)), (.ref ar)]))
        refine k_asB X281 hx hZ e281 5 (q := 159) rfl (hb hby at_158) V280 ⟨by decide, by decide⟩ (by decide) ?_
        intro T282 h282 X282 e282 W282 V282
        have K282 := Keep.of_wr W282
        have N282 := Fr.snoc X282 N281 ge_ar
        refine k_aload X282 hx (q := 161) rfl (hb hby at_159) rfl rfl ?_
        refine k_bipush X282 hx (v := (6 : Int32)) rfl (q := 163) rfl (hb hby at_161) ?_
        refine k_lload X282 hx (q := 165) rfl (hb hby at_163) rfl ?_
        refine k_bipush X282 hx (v := (6 : Int32)) rfl (q := 167) rfl (hb hby at_165) ?_
        refine k_iload X282 hx (q := 169) rfl (hb hby at_167) rfl ?_
        refine k_callS X282 hx hZ (y := (⟨"com/example/footwise/footwise/osm/ProtobufNextPinLaw", "enc", "(JII)B"⟩ : MethodName)) hown (hw _ (List.mem_of_getElem? (i := 8) rfl)) (hw _ (List.mem_of_getElem? (i := 9) rfl)) (hw _ (List.mem_of_getElem? (i := 4) rfl)) (hw _ (List.mem_of_getElem? (i := 10) rfl)) (by decide) 2 e282 (rm2 l Z a0 hw ky (6 : Int32) len h282 n0) (by decide) (by decide) (by decide) (by decide) (by rw [hml]; rfl) (as := [(.long ky), (.int (6 : Int32)), (.int len)]) (rest := [(.int (6 : Int32)), (.ref ar)]) pd_6 rfl (by first | exact Nat.le_refl _ | simp [Value.category]) (q := 172) rfl (hb hby at_169) ?_
        rintro _ T283 L283 X283 ⟨rfl, N283q, e283⟩
        have N283 := Fr.app N282 N283q
        show End _ _ _ _ _ _ _ (T283.setTop (mkF m 172 #[.val (.int x0), .val (.int x1), .val (.int x2), .val (.int x3), .val (.int nu), .val (.int sel), .val (.int (5 : Int32)), .val (.long ky), .second, .val (.int mn), .val (.int len), .val (.ref ar), .unset, .unset, .unset, .unset, .unset, .unset, .unset, .unset, .unset, .unset, .unset] [(.int (f2 ky (6 : Int32) len)), (.int (6 : Int32)), (.ref ar)]))
        refine k_asB X283 hx hZ e283 6 (q := 173) rfl (hb hby at_172) V282 ⟨by decide, by decide⟩ (by decide) ?_
        intro T284 h284 X284 e284 W284 V284
        have K284 := Keep.of_wr W284
        have N284 := Fr.snoc X284 N283 ge_ar
        refine k_aload X284 hx (q := 175) rfl (hb hby at_173) rfl rfl ?_
        refine k_bipush X284 hx (v := (7 : Int32)) rfl (q := 177) rfl (hb hby at_175) ?_
        refine k_lload X284 hx (q := 179) rfl (hb hby at_177) rfl ?_
        refine k_bipush X284 hx (v := (7 : Int32)) rfl (q := 181) rfl (hb hby at_179) ?_
        refine k_iload X284 hx (q := 183) rfl (hb hby at_181) rfl ?_
        refine k_callS X284 hx hZ (y := (⟨"com/example/footwise/footwise/osm/ProtobufNextPinLaw", "enc", "(JII)B"⟩ : MethodName)) hown (hw _ (List.mem_of_getElem? (i := 8) rfl)) (hw _ (List.mem_of_getElem? (i := 9) rfl)) (hw _ (List.mem_of_getElem? (i := 4) rfl)) (hw _ (List.mem_of_getElem? (i := 10) rfl)) (by decide) 2 e284 (rm2 l Z a0 hw ky (7 : Int32) len h284 n0) (by decide) (by decide) (by decide) (by decide) (by rw [hml]; rfl) (as := [(.long ky), (.int (7 : Int32)), (.int len)]) (rest := [(.int (7 : Int32)), (.ref ar)]) pd_6 rfl (by first | exact Nat.le_refl _ | simp [Value.category]) (q := 186) rfl (hb hby at_183) ?_
        rintro _ T285 L285 X285 ⟨rfl, N285q, e285⟩
        have N285 := Fr.app N284 N285q
        show End _ _ _ _ _ _ _ (T285.setTop (mkF m 186 #[.val (.int x0), .val (.int x1), .val (.int x2), .val (.int x3), .val (.int nu), .val (.int sel), .val (.int (5 : Int32)), .val (.long ky), .second, .val (.int mn), .val (.int len), .val (.ref ar), .unset, .unset, .unset, .unset, .unset, .unset, .unset, .unset, .unset, .unset, .unset] [(.int (f2 ky (7 : Int32) len)), (.int (7 : Int32)), (.ref ar)]))
        refine k_asB X285 hx hZ e285 7 (q := 187) rfl (hb hby at_186) V284 ⟨by decide, by decide⟩ (by decide) ?_
        intro T286 h286 X286 e286 W286 V286
        have K286 := Keep.of_wr W286
        have N286 := Fr.snoc X286 N285 ge_ar
        refine k_aload X286 hx (q := 189) rfl (hb hby at_187) rfl rfl ?_
        refine k_bipush X286 hx (v := (8 : Int32)) rfl (q := 191) rfl (hb hby at_189) ?_
        refine k_lload X286 hx (q := 193) rfl (hb hby at_191) rfl ?_
        refine k_bipush X286 hx (v := (8 : Int32)) rfl (q := 195) rfl (hb hby at_193) ?_
        refine k_iload X286 hx (q := 197) rfl (hb hby at_195) rfl ?_
        refine k_callS X286 hx hZ (y := (⟨"com/example/footwise/footwise/osm/ProtobufNextPinLaw", "enc", "(JII)B"⟩ : MethodName)) hown (hw _ (List.mem_of_getElem? (i := 8) rfl)) (hw _ (List.mem_of_getElem? (i := 9) rfl)) (hw _ (List.mem_of_getElem? (i := 4) rfl)) (hw _ (List.mem_of_getElem? (i := 10) rfl)) (by decide) 2 e286 (rm2 l Z a0 hw ky (8 : Int32) len h286 n0) (by decide) (by decide) (by decide) (by decide) (by rw [hml]; rfl) (as := [(.long ky), (.int (8 : Int32)), (.int len)]) (rest := [(.int (8 : Int32)), (.ref ar)]) pd_6 rfl (by first | exact Nat.le_refl _ | simp [Value.category]) (q := 200) rfl (hb hby at_197) ?_
        rintro _ T287 L287 X287 ⟨rfl, N287q, e287⟩
        have N287 := Fr.app N286 N287q
        show End _ _ _ _ _ _ _ (T287.setTop (mkF m 200 #[.val (.int x0), .val (.int x1), .val (.int x2), .val (.int x3), .val (.int nu), .val (.int sel), .val (.int (5 : Int32)), .val (.long ky), .second, .val (.int mn), .val (.int len), .val (.ref ar), .unset, .unset, .unset, .unset, .unset, .unset, .unset, .unset, .unset, .unset, .unset] [(.int (f2 ky (8 : Int32) len)), (.int (8 : Int32)), (.ref ar)]))
        refine k_asB X287 hx hZ e287 8 (q := 201) rfl (hb hby at_200) V286 ⟨by decide, by decide⟩ (by decide) ?_
        intro T288 h288 X288 e288 W288 V288
        have K288 := Keep.of_wr W288
        have N288 := Fr.snoc X288 N287 ge_ar
        refine k_aload X288 hx (q := 203) rfl (hb hby at_201) rfl rfl ?_
        refine k_bipush X288 hx (v := (9 : Int32)) rfl (q := 205) rfl (hb hby at_203) ?_
        refine k_lload X288 hx (q := 207) rfl (hb hby at_205) rfl ?_
        refine k_bipush X288 hx (v := (9 : Int32)) rfl (q := 209) rfl (hb hby at_207) ?_
        refine k_iload X288 hx (q := 211) rfl (hb hby at_209) rfl ?_
        refine k_callS X288 hx hZ (y := (⟨"com/example/footwise/footwise/osm/ProtobufNextPinLaw", "enc", "(JII)B"⟩ : MethodName)) hown (hw _ (List.mem_of_getElem? (i := 8) rfl)) (hw _ (List.mem_of_getElem? (i := 9) rfl)) (hw _ (List.mem_of_getElem? (i := 4) rfl)) (hw _ (List.mem_of_getElem? (i := 10) rfl)) (by decide) 2 e288 (rm2 l Z a0 hw ky (9 : Int32) len h288 n0) (by decide) (by decide) (by decide) (by decide) (by rw [hml]; rfl) (as := [(.long ky), (.int (9 : Int32)), (.int len)]) (rest := [(.int (9 : Int32)), (.ref ar)]) pd_6 rfl (by first | exact Nat.le_refl _ | simp [Value.category]) (q := 214) rfl (hb hby at_211) ?_
        rintro _ T289 L289 X289 ⟨rfl, N289q, e289⟩
        have N289 := Fr.app N288 N289q
        show End _ _ _ _ _ _ _ (T289.setTop (mkF m 214 #[.val (.int x0), .val (.int x1), .val (.int x2), .val (.int x3), .val (.int nu), .val (.int sel), .val (.int (5 : Int32)), .val (.long ky), .second, .val (.int mn), .val (.int len), .val (.ref ar), .unset, .unset, .unset, .unset, .unset, .unset, .unset, .unset, .unset, .unset, .unset] [(.int (f2 ky (9 : Int32) len)), (.int (9 : Int32)), (.ref ar)]))
        refine k_asB X289 hx hZ e289 9 (q := 215) rfl (hb hby at_214) V288 ⟨by decide, by decide⟩ (by decide) ?_
        intro T290 h290 X290 e290 W290 V290
        have K290 := Keep.of_wr W290
        have N290 := Fr.snoc X290 N289 ge_ar
        have Ve : Ary Z h290 ar .byte 32 (fun t => .int (if t < 10 then nar .byte (f2 ky t.toInt32 len) else 0)) := V290.congr fun t ht => by
          by_cases q : t < 10
          · have : t = 0 ∨ t = 1 ∨ t = 2 ∨ t = 3 ∨ t = 4 ∨ t = 5 ∨ t = 6 ∨ t = 7 ∨ t = 8 ∨ t = 9 := by omega
            rcases this with rfl | rfl | rfl | rfl | rfl | rfl | rfl | rfl | rfl | rfl <;> rfl
          · simp only [if_neg q, if_neg (show ¬ t = 0 by omega), if_neg (show ¬ t = 1 by omega), if_neg (show ¬ t = 2 by omega), if_neg (show ¬ t = 3 by omega), if_neg (show ¬ t = 4 by omega), if_neg (show ¬ t = 5 by omega), if_neg (show ¬ t = 6 by omega), if_neg (show ¬ t = 7 by omega), if_neg (show ¬ t = 8 by omega), if_neg (show ¬ t = 9 by omega)]
        refine k_iload X290 hx (q := 217) rfl (hb hby at_215) rfl ?_
        refine k_if_ne X290 hx (q1 := 255) (q := 220) (by decide) (by decide) rfl (hb hby at_217) (fun _ => ?_) (fun hc => absurd hc (by decide))
        refine k_iload X290 hx (q := 257) rfl (hb hby at_255) rfl ?_
        refine k_iconst X290 hx (v := (1 : Int32)) rfl (q := 258) rfl (hb hby at_257) ?_
        refine k_icmp_ne X290 hx (q1 := 290) (q := 261) (by decide) (by decide) rfl (hb hby at_258) (fun _ => ?_) (fun hc => absurd hc (by decide))
        refine k_iload X290 hx (q := 292) rfl (hb hby at_290) rfl ?_
        refine k_iconst X290 hx (v := (2 : Int32)) rfl (q := 293) rfl (hb hby at_292) ?_
        refine k_icmp_ne X290 hx (q1 := 319) (q := 296) (by decide) (by decide) rfl (hb hby at_293) (fun _ => ?_) (fun hc => absurd hc (by decide))
        refine k_iconst X290 hx (v := (4 : Int32)) rfl (q := 320) rfl (hb hby at_319) ?_
        refine k_istore X290 hx (L' := #[.val (.int x0), .val (.int x1), .val (.int x2), .val (.int x3), .val (.int nu), .val (.int sel), .val (.int (5 : Int32)), .val (.long ky), .second, .val (.int mn), .val (.int len), .val (.ref ar), .val (.int (4 : Int32)), .unset, .unset, .unset, .unset, .unset, .unset, .unset, .unset, .unset, .unset]) (q := 322) rfl (hb hby at_320) rfl ?_
        refine k_aload X290 hx (q := 324) rfl (hb hby at_322) rfl rfl ?_
        refine k_iload X290 hx (q := 326) rfl (hb hby at_324) rfl ?_
        refine k_iloadN X290 hx (q := 327) rfl (hb hby at_326) rfl ?_
        refine k_i2b X290 hx (q := 328) rfl (hb hby at_327) ?_
        refine k_asB X290 hx hZ e290 n (q := 329) rfl (hb hby at_328) Ve hlen (by omega) ?_
        intro T294 h294 X294 e294 W294 V294
        have K294 := Keep.of_wr W294
        have N294 := Fr.snoc X294 N290 ge_ar
        have hl1 : Ix (len + (4 : Int32) - (1 : Int32)) (n + 3) := own_dec (own_addi hlen (y := (4 : Int32)) (b := 4) ⟨by decide, by decide⟩ (by omega)) (by omega)
        refine k_aload X294 hx (q := 331) rfl (hb hby at_329) rfl rfl ?_
        refine k_iload X294 hx (q := 333) rfl (hb hby at_331) rfl ?_
        refine k_iload X294 hx (q := 335) rfl (hb hby at_333) rfl ?_
        refine k_iadd X294 hx (q := 336) rfl (hb hby at_335) ?_
        refine k_iconst X294 hx (v := (1 : Int32)) rfl (q := 337) rfl (hb hby at_336) ?_
        refine k_isub X294 hx (q := 338) rfl (hb hby at_337) ?_
        refine k_iloadN X294 hx (q := 339) rfl (hb hby at_338) rfl ?_
        refine k_bipush X294 hx (v := (8 : Int32)) rfl (q := 341) rfl (hb hby at_339) ?_
        refine k_iushr X294 hx (q := 342) rfl (hb hby at_341) ?_
        refine k_i2b X294 hx (q := 343) rfl (hb hby at_342) ?_
        refine k_asB X294 hx hZ e294 (n + 3) (q := 344) rfl (hb hby at_343) V294 hl1 (by omega) ?_
        intro T295 h295 X295 e295 W295 V295
        have K295 := Keep.of_wr W295
        have N295 := Fr.snoc X295 N294 ge_ar
        refine k_iload X295 hx (q := 346) rfl (hb hby at_344) rfl ?_
        refine k_iload X295 hx (q := 348) rfl (hb hby at_346) rfl ?_
        refine k_iadd X295 hx (q := 349) rfl (hb hby at_348) ?_
        refine k_istore X295 hx (L' := #[.val (.int x0), .val (.int x1), .val (.int x2), .val (.int x3), .val (.int nu), .val (.int sel), .val (.int (5 : Int32)), .val (.long ky), .second, .val (.int mn), .val (.int len), .val (.ref ar), .val (.int (4 : Int32)), .val (.int (len + (4 : Int32))), .unset, .unset, .unset, .unset, .unset, .unset, .unset, .unset, .unset]) (q := 351) rfl (hb hby at_349) rfl ?_
        have hp : Ix (len + (4 : Int32)) (n + 4) := own_addi hlen ⟨by decide, by decide⟩ (by omega)
        generalize hpp : (len + (4 : Int32)) = pp
        rw [hpp] at hp
        refine k_aload X295 hx (q := 353) rfl (hb hby at_351) rfl rfl ?_
        refine k_iload X295 hx (q := 355) rfl (hb hby at_353) rfl ?_
        refine k_bipush X295 hx (v := (10 : Int32)) rfl (q := 357) rfl (hb hby at_355) ?_
        refine k_asB X295 hx hZ e295 (n + 4) (q := 358) rfl (hb hby at_357) V295 hp (by omega) ?_
        intro T296 h296 X296 e296 W296 V296
        have K296 := Keep.of_wr W296
        have N296 := Fr.snoc X296 N295 ge_ar
        have hp1 := own_up hp (by omega)
        refine k_aload X296 hx (q := 360) rfl (hb hby at_358) rfl rfl ?_
        refine k_iload X296 hx (q := 362) rfl (hb hby at_360) rfl ?_
        refine k_iconst X296 hx (v := (1 : Int32)) rfl (q := 363) rfl (hb hby at_362) ?_
        refine k_iadd X296 hx (q := 364) rfl (hb hby at_363) ?_
        refine k_bipush X296 hx (v := (32 : Int32)) rfl (q := 366) rfl (hb hby at_364) ?_
        refine k_iload X296 hx (q := 368) rfl (hb hby at_366) rfl ?_
        refine k_isub X296 hx (q := 369) rfl (hb hby at_368) ?_
        refine k_iconst X296 hx (v := (2 : Int32)) rfl (q := 370) rfl (hb hby at_369) ?_
        refine k_isub X296 hx (q := 371) rfl (hb hby at_370) ?_
        refine k_i2b X296 hx (q := 372) rfl (hb hby at_371) ?_
        refine k_asB X296 hx hZ e296 ((n + 4) + 1) (q := 373) rfl (hb hby at_372) V296 hp1 (by omega) ?_
        intro T297 h297 X297 e297 W297 V297
        have K297 := Keep.of_wr W297
        have N297 := Fr.snoc X297 N296 ge_ar
        obtain ⟨g, hg⟩ : ∃ g : Nat → Int32, g = fun t => (if t = ((n + 4) + 1) then nar .byte ((((32 : Int32) - pp) - (2 : Int32)).toInt8.toInt32) else (if t = (n + 4) then nar .byte (10 : Int32) else (if t = (n + 3) then nar .byte (((x2.toUInt32 >>> ((8 : Int32) &&& 31).toUInt32).toInt32).toInt8.toInt32) else (if t = n then nar .byte (x2.toInt8.toInt32) else (if t < 10 then nar .byte (f2 ky t.toInt32 len) else 0))))) := ⟨_, rfl⟩
        have Vg : Ary Z h297 ar .byte 32 (fun t => .int (g t)) := V297.congr fun t ht => by
          rw [hg]
          show _ = Value.int (if t = ((n + 4) + 1) then nar .byte ((((32 : Int32) - pp) - (2 : Int32)).toInt8.toInt32) else (if t = (n + 4) then nar .byte (10 : Int32) else (if t = (n + 3) then nar .byte (((x2.toUInt32 >>> ((8 : Int32) &&& 31).toUInt32).toInt32).toInt8.toInt32) else (if t = n then nar .byte (x2.toInt8.toInt32) else (if t < 10 then nar .byte (f2 ky t.toInt32 len) else 0)))))
          repeat' split
          all_goals rfl
        have g_lo : ∀ t, t < n → g t = nar .byte (f2 ky t.toInt32 len) := fun t ht => by
          rw [hg]; simp only [if_neg (show ¬ t = n by omega), if_neg (show ¬ t = (n + 3) by omega), if_neg (show ¬ t = (n + 4) by omega), if_neg (show ¬ t = ((n + 4) + 1) by omega), if_pos (show t < 10 by omega)]
        have g_p : g (n + 4) = nar .byte ((10 : Int32)) := by
          rw [hg]; simp only [if_neg (show ¬ (n + 4) = ((n + 4) + 1) by omega), if_true]
        have g_p1 : g ((n + 4) + 1) = nar .byte ((((32 : Int32) - pp) - (2 : Int32)).toInt8.toInt32) := by
          rw [hg]; simp only [if_true]
        have hk0' : 0 ≤ ky.toInt := by omega
        have hraw : own_raw g 0 n = ky := own_whole g ky hk0' hm5 hmk hmn' hn10 fun t ht => by
          rw [g_lo t ht, own_enc ky hk0' hlen hn10 ht]
          have d0 := Int.emod_nonneg (ky.toInt / 128 ^ t) (show (128 : Int) ≠ 0 by decide)
          have d1 := Int.emod_lt_of_pos (ky.toInt / 128 ^ t) (show (0 : Int) < 128 by decide)
          split <;> omega
        have hneg : ∀ t, t < n - 1 → g (0 + t) < 0 := fun t ht => by
          have e := own_enc ky hk0' hlen hn10 (t := t) (by omega)
          rw [← g_lo t (by omega), if_neg (by omega)] at e
          have d1 := Int.emod_lt_of_pos (ky.toInt / 128 ^ t) (show (0 : Int) < 128 by decide)
          rw [Nat.zero_add, Int32.lt_iff_toInt_lt, e]
          have : (0 : Int32).toInt = 0 := by decide
          omega
        have hnon : ¬ g (0 + (n - 1)) < 0 := by
          have e := own_enc ky hk0' hlen hn10 (t := n - 1) (by omega)
          rw [← g_lo (n - 1) (by omega), if_pos rfl] at e
          have d0 := Int.emod_nonneg (ky.toInt / 128 ^ (n - 1)) (show (128 : Int) ≠ 0 by decide)
          rw [Nat.zero_add, Int32.lt_iff_toInt_lt, e]
          have : (0 : Int32).toInt = 0 := by decide
          omega
        obtain ⟨hf1, hf2, hf3, hf4⟩ := own_fields (w := (5 : Int32)) hky hnu1 hnu2 (by decide) (by decide)
        have g_p' : (g (n + 4)).toInt = 10 := by rw [g_p]; decide
        have g_p1' : (g ((n + 4) + 1)).toInt = 30 - ((n + 4) : Nat) := by
          rw [g_p1]
          have i := hp.int
          have s1 := c_isub 32 pp
          have s2 := c_isub ((32 : Int32) - pp) 2
          have e32 : (32 : Int32).toInt = 32 := by decide
          have e2 : (2 : Int32).toInt = 2 := by decide
          have r1 := rng32 ((32 : Int32) - pp)
          have r2 := rng32 ((32 : Int32) - pp - 2)
          have b1 := c_i2b ((32 : Int32) - pp - 2)
          have b2 := own_nb ((32 : Int32) - pp - 2).toInt8.toInt32
          omega
        refine k_new X297 hx hZ hown (hw _ (List.mem_of_getElem? (i := 12) rfl)) (hw _ (List.mem_of_getElem? (i := 13) rfl)) (hw _ (List.mem_of_getElem? (i := 14) rfl)) e297 (q := 376) rfl (hb hby at_373) (by decide) (by decide) ?_
        intro T298 h298 pe X298 e298 g298 E298 A298 D298
        have K298 := Keep.of_ext E298
        have F299 : Fld Z h298 pe "com/example/footwise/footwise/osm/Protobuf" "bytes" "[B" .null := D298 (Or.inr (hw _ (List.mem_of_getElem? (i := 25) rfl))) (ty := (.array .byte)) (by decide)
        have F300 : Fld Z h298 pe "com/example/footwise/footwise/osm/Protobuf" "position" "I" (.int (0 : Int32)) := D298 (Or.inl (hw _ (List.mem_of_getElem? (i := 27) rfl))) (ty := .int) (by decide)
        have F301 : Fld Z h298 pe "com/example/footwise/footwise/osm/Protobuf" "end" "I" (.int (0 : Int32)) := D298 (Or.inr (hw _ (List.mem_of_getElem? (i := 29) rfl))) (ty := .int) (by decide)
        have F302 : Fld Z h298 pe "com/example/footwise/footwise/osm/Protobuf" "field" "I" (.int (0 : Int32)) := D298 (Or.inl (hw _ (List.mem_of_getElem? (i := 41) rfl))) (ty := .int) (by decide)
        have F303 : Fld Z h298 pe "com/example/footwise/footwise/osm/Protobuf" "wireType" "I" (.int (0 : Int32)) := D298 (Or.inl (hw _ (List.mem_of_getElem? (i := 44) rfl))) (ty := .int) (by decide)
        refine k_dup X298 hx (q := 377) rfl (hb hby at_376) rfl ?_
        refine k_iconst X298 hx (v := (0 : Int32)) rfl (q := 378) rfl (hb hby at_377) ?_
        refine k_newP X298 hx hZ (hw _ (List.mem_of_getElem? (i := 7) rfl)) e298 (q := 380) rfl (hb hby at_378) (by decide) (cap := 0) (by decide) (by decide) (by decide) (by decide) ?_
        intro T304 h304 ea k304 X304 e304 g304 E304 A304
        have K304 := Keep.of_ext E304
        have V304 : Ary Z h304 ea .byte 0 (fun _ => .int (0 : Int32)) := Ary.new A304 (by decide) rfl
        have Sz319 : n0 ≤ h270.size := Nat.le_trans Z0 K270.1
        have Sz318 : n0 ≤ h272.size := Nat.le_trans Sz319 K272.1
        have Sz317 : n0 ≤ h274.size := Nat.le_trans Sz318 K274.1
        have Sz316 : n0 ≤ h276.size := Nat.le_trans Sz317 K276.1
        have Sz315 : n0 ≤ h278.size := Nat.le_trans Sz316 K278.1
        have Sz314 : n0 ≤ h280.size := Nat.le_trans Sz315 K280.1
        have Sz313 : n0 ≤ h282.size := Nat.le_trans Sz314 K282.1
        have Sz312 : n0 ≤ h284.size := Nat.le_trans Sz313 K284.1
        have Sz311 : n0 ≤ h286.size := Nat.le_trans Sz312 K286.1
        have Sz310 : n0 ≤ h288.size := Nat.le_trans Sz311 K288.1
        have Sz309 : n0 ≤ h290.size := Nat.le_trans Sz310 K290.1
        have Sz308 : n0 ≤ h294.size := Nat.le_trans Sz309 K294.1
        have Sz307 : n0 ≤ h295.size := Nat.le_trans Sz308 K295.1
        have Sz306 : n0 ≤ h296.size := Nat.le_trans Sz307 K296.1
        have Sz305 : n0 ≤ h297.size := Nat.le_trans Sz306 K297.1
        have ge_pe : n0 ≤ pe := Nat.le_trans Sz305 (Nat.le_of_eq g298.symm)
        have G320 := (A298.keep K304)
        have G321 := (F299.keep K304 nin0)
        have G322 := (F300.keep K304 nin0)
        have G323 := (F301.keep K304 nin0)
        have G324 := (F302.keep K304 nin0)
        have G325 := (F303.keep K304 nin0)
        refine k_callI X304 hx hZ (y := (⟨"com/example/footwise/footwise/osm/Protobuf", "<init>", "([B)V"⟩ : MethodName)) hown rfl (hw _ (List.mem_of_getElem? (i := 15) rfl)) (hw _ (List.mem_of_getElem? (i := 16) rfl)) (hw _ (List.mem_of_getElem? (i := 14) rfl)) (hw _ (List.mem_of_getElem? (i := 17) rfl)) (by decide) 1 e304 (rm3 l Z a0 hw pe ea h304 n0 ge_pe G320 G321 G322 G323 G324 G325 0 _ V304) (by decide) (by decide) (by decide) (by decide) (by rw [hml]; rfl) (a := pe) (as := [(.ref ea)]) (rest := [(.ref pe)]) pd_7 rfl (by first | exact Nat.le_refl _ | simp [Value.category]) (q := 383) rfl (hb hby at_380) ?_
        rintro _ T326 L326 X326 ⟨rfl, N326q, K326, P326⟩
        have N326 := Fr.app N297 N326q
        show End _ _ _ _ _ _ _ (T326.setTop (mkF m 383 #[.val (.int x0), .val (.int x1), .val (.int x2), .val (.int x3), .val (.int nu), .val (.int sel), .val (.int (5 : Int32)), .val (.long ky), .second, .val (.int mn), .val (.int len), .val (.ref ar), .val (.int (4 : Int32)), .val (.int pp), .unset, .unset, .unset, .unset, .unset, .unset, .unset, .unset, .unset] [(.ref pe)]))
        refine k_astore X326 hx (L' := #[.val (.int x0), .val (.int x1), .val (.int x2), .val (.int x3), .val (.int nu), .val (.int sel), .val (.int (5 : Int32)), .val (.long ky), .second, .val (.int mn), .val (.int len), .val (.ref ar), .val (.int (4 : Int32)), .val (.int pp), .val (.ref pe), .unset, .unset, .unset, .unset, .unset, .unset, .unset, .unset]) (q := 385) rfl (hb hby at_383) rfl rfl ?_
        refine k_aload X326 hx (q := 387) rfl (hb hby at_385) rfl rfl ?_
        have ne_pe_ea : pe ≠ ea := Nat.ne_of_lt (Nat.lt_of_lt_of_le (A298).lt (Nat.le_of_eq g304.symm))
        refine k_callV X326 hx hZ (y := (⟨"com/example/footwise/footwise/osm/Protobuf", "next", "()Z"⟩ : MethodName)) (z := (⟨"com/example/footwise/footwise/osm/Protobuf", "next", "()Z"⟩ : MethodName)) hown (hw _ (List.mem_of_getElem? (i := 30) rfl)) (hw _ (List.mem_of_getElem? (i := 31) rfl)) (notFace_of_selects (args := #[]) (mvT hZ (hw _ (List.mem_of_getElem? (i := 33) rfl)))) (hw _ (List.mem_of_getElem? (i := 33) rfl)) (hw _ (List.mem_of_getElem? (i := 32) rfl)) (hw _ (List.mem_of_getElem? (i := 34) rfl)) (hw _ (List.mem_of_getElem? (i := 14) rfl)) (by decide) P326.1 0 rfl (rm6e l Z a0 hw pe T326.heap n0 ge_pe ea 0 _ 0 0 P326 (Ne.symm ne_pe_ea) 0 0 ⟨by decide, by decide⟩ (own_nat (by decide)) (by decide) (by decide)) (by decide) (by decide) (by decide) (by decide) (by rw [hml]; rfl) (a := pe) (as := []) (rest := []) pd_8 rfl (by first | exact Nat.le_refl _ | simp [Value.category]) (q := 390) rfl (hb hby at_387) ?_
        rintro _ T327 L327 X327 ⟨rfl, N327q, e327⟩
        have N327 := Fr.app N326 N327q
        show End _ _ _ _ _ _ _ (T327.setTop (mkF m 390 #[.val (.int x0), .val (.int x1), .val (.int x2), .val (.int x3), .val (.int nu), .val (.int sel), .val (.int (5 : Int32)), .val (.long ky), .second, .val (.int mn), .val (.int len), .val (.ref ar), .val (.int (4 : Int32)), .val (.int pp), .val (.ref pe), .unset, .unset, .unset, .unset, .unset, .unset, .unset, .unset] [(.int (0 : Int32))]))
        refine k_istore X327 hx (L' := #[.val (.int x0), .val (.int x1), .val (.int x2), .val (.int x3), .val (.int nu), .val (.int sel), .val (.int (5 : Int32)), .val (.long ky), .second, .val (.int mn), .val (.int len), .val (.ref ar), .val (.int (4 : Int32)), .val (.int pp), .val (.ref pe), .val (.int (0 : Int32)), .unset, .unset, .unset, .unset, .unset, .unset, .unset]) (q := 392) rfl (hb hby at_390) rfl ?_
        refine k_new X327 hx hZ hown (hw _ (List.mem_of_getElem? (i := 12) rfl)) (hw _ (List.mem_of_getElem? (i := 13) rfl)) (hw _ (List.mem_of_getElem? (i := 14) rfl)) e327 (q := 395) rfl (hb hby at_392) (by decide) (by decide) ?_
        intro T328 h328 pb X328 e328 g328 E328 A328 D328
        have K328 := Keep.of_ext E328
        have F329 : Fld Z h328 pb "com/example/footwise/footwise/osm/Protobuf" "bytes" "[B" .null := D328 (Or.inr (hw _ (List.mem_of_getElem? (i := 25) rfl))) (ty := (.array .byte)) (by decide)
        have F330 : Fld Z h328 pb "com/example/footwise/footwise/osm/Protobuf" "position" "I" (.int (0 : Int32)) := D328 (Or.inl (hw _ (List.mem_of_getElem? (i := 27) rfl))) (ty := .int) (by decide)
        have F331 : Fld Z h328 pb "com/example/footwise/footwise/osm/Protobuf" "end" "I" (.int (0 : Int32)) := D328 (Or.inr (hw _ (List.mem_of_getElem? (i := 29) rfl))) (ty := .int) (by decide)
        have F332 : Fld Z h328 pb "com/example/footwise/footwise/osm/Protobuf" "field" "I" (.int (0 : Int32)) := D328 (Or.inl (hw _ (List.mem_of_getElem? (i := 41) rfl))) (ty := .int) (by decide)
        have F333 : Fld Z h328 pb "com/example/footwise/footwise/osm/Protobuf" "wireType" "I" (.int (0 : Int32)) := D328 (Or.inl (hw _ (List.mem_of_getElem? (i := 44) rfl))) (ty := .int) (by decide)
        refine k_dup X328 hx (q := 396) rfl (hb hby at_395) rfl ?_
        refine k_aload X328 hx (q := 398) rfl (hb hby at_396) rfl rfl ?_
        have Sz336 : n0 ≤ h298.size := Nat.le_trans Sz305 K298.1
        have Sz335 : n0 ≤ h304.size := Nat.le_trans Sz336 K304.1
        have Sz334 : n0 ≤ T326.heap.size := Nat.le_trans Sz335 K326.1
        have ge_pb : n0 ≤ pb := Nat.le_trans Sz334 (Nat.le_of_eq g328.symm)
        have ne_ar_pe : ar ≠ pe := Nat.ne_of_lt (Nat.lt_of_lt_of_le (Vg).lt (Nat.le_of_eq g298.symm))
        have G337 := ((((Vg.keep K298 nin0).keep K304 nin0).keep K326 (ninS ne_ar_pe nin0)).keep K328 nin0)
        refine k_callI X328 hx hZ (y := (⟨"com/example/footwise/footwise/osm/Protobuf", "<init>", "([B)V"⟩ : MethodName)) hown rfl (hw _ (List.mem_of_getElem? (i := 15) rfl)) (hw _ (List.mem_of_getElem? (i := 16) rfl)) (hw _ (List.mem_of_getElem? (i := 14) rfl)) (hw _ (List.mem_of_getElem? (i := 17) rfl)) (by decide) 1 e328 (rm3 l Z a0 hw pb ar h328 n0 ge_pb A328 F329 F330 F331 F332 F333 32 _ G337) (by decide) (by decide) (by decide) (by decide) (by rw [hml]; rfl) (a := pb) (as := [(.ref ar)]) (rest := [(.ref pb)]) pd_7 rfl (by first | exact Nat.le_refl _ | simp [Value.category]) (q := 401) rfl (hb hby at_398) ?_
        rintro _ T338 L338 X338 ⟨rfl, N338q, K338, P338⟩
        have N338 := Fr.app N327 N338q
        show End _ _ _ _ _ _ _ (T338.setTop (mkF m 401 #[.val (.int x0), .val (.int x1), .val (.int x2), .val (.int x3), .val (.int nu), .val (.int sel), .val (.int (5 : Int32)), .val (.long ky), .second, .val (.int mn), .val (.int len), .val (.ref ar), .val (.int (4 : Int32)), .val (.int pp), .val (.ref pe), .val (.int (0 : Int32)), .unset, .unset, .unset, .unset, .unset, .unset, .unset] [(.ref pb)]))
        have G339 := (((Vg.keep K298 nin0).keep K304 nin0).keep K326 (ninS ne_ar_pe nin0))
        have ne_ar_pb : ar ≠ pb := Nat.ne_of_lt (Nat.lt_of_lt_of_le (G339).lt (Nat.le_of_eq g328.symm))
        refine k_astore X338 hx (L' := #[.val (.int x0), .val (.int x1), .val (.int x2), .val (.int x3), .val (.int nu), .val (.int sel), .val (.int (5 : Int32)), .val (.long ky), .second, .val (.int mn), .val (.int len), .val (.ref ar), .val (.int (4 : Int32)), .val (.int pp), .val (.ref pe), .val (.int (0 : Int32)), .val (.ref pb), .unset, .unset, .unset, .unset, .unset, .unset]) (q := 403) rfl (hb hby at_401) rfl rfl ?_
        refine k_aload X338 hx (q := 405) rfl (hb hby at_403) rfl rfl ?_
        have G340 := (G337.keep K338 (ninS ne_ar_pb nin0))
        refine k_callV X338 hx hZ (y := (⟨"com/example/footwise/footwise/osm/Protobuf", "next", "()Z"⟩ : MethodName)) (z := (⟨"com/example/footwise/footwise/osm/Protobuf", "next", "()Z"⟩ : MethodName)) hown (hw _ (List.mem_of_getElem? (i := 30) rfl)) (hw _ (List.mem_of_getElem? (i := 31) rfl)) (notFace_of_selects (args := #[]) (mvT hZ (hw _ (List.mem_of_getElem? (i := 33) rfl)))) (hw _ (List.mem_of_getElem? (i := 33) rfl)) (hw _ (List.mem_of_getElem? (i := 32) rfl)) (hw _ (List.mem_of_getElem? (i := 34) rfl)) (hw _ (List.mem_of_getElem? (i := 14) rfl)) (by decide) P338.1 0 rfl (rm6 l Z a0 hw pb T338.heap n0 ge_pb ar 0 _ 0 0 P338 ne_ar_pb 0 32 ⟨by decide, by decide⟩ (own_nat (by decide)) (by decide) 32 (by decide) g G340 (n - 1) (by omega) hneg hnon (by omega) ky (by rw [show n - 1 + 1 = n by omega]; exact hraw) hf1 hf2) (by decide) (by decide) (by decide) (by decide) (by rw [hml]; rfl) (a := pb) (as := []) (rest := []) pd_8 rfl (by first | exact Nat.le_refl _ | simp [Value.category]) (q := 408) rfl (hb hby at_405) ?_
        rintro _ T341 L341 X341 ⟨rfl, N341q, K341, q1, hq1, P341⟩
        have N341 := Fr.app N338 N341q
        show End _ _ _ _ _ _ _ (T341.setTop (mkF m 408 #[.val (.int x0), .val (.int x1), .val (.int x2), .val (.int x3), .val (.int nu), .val (.int sel), .val (.int (5 : Int32)), .val (.long ky), .second, .val (.int mn), .val (.int len), .val (.ref ar), .val (.int (4 : Int32)), .val (.int pp), .val (.ref pe), .val (.int (0 : Int32)), .val (.ref pb), .unset, .unset, .unset, .unset, .unset, .unset] [(.int (1 : Int32))]))
        rw [hf3, hf4] at P341
        rw [show 0 + (n - 1) + 1 = n by omega] at hq1
        refine k_istore X341 hx (L' := #[.val (.int x0), .val (.int x1), .val (.int x2), .val (.int x3), .val (.int nu), .val (.int sel), .val (.int (5 : Int32)), .val (.long ky), .second, .val (.int mn), .val (.int len), .val (.ref ar), .val (.int (4 : Int32)), .val (.int pp), .val (.ref pe), .val (.int (0 : Int32)), .val (.ref pb), .val (.int (1 : Int32)), .unset, .unset, .unset, .unset, .unset]) (q := 410) rfl (hb hby at_408) rfl ?_
        refine k_aload X341 hx (q := 412) rfl (hb hby at_410) rfl rfl ?_
        refine k_callV X341 hx hZ (y := (⟨"com/example/footwise/footwise/osm/Protobuf", "field", "()I"⟩ : MethodName)) (z := (⟨"com/example/footwise/footwise/osm/Protobuf", "field", "()I"⟩ : MethodName)) hown (hw _ (List.mem_of_getElem? (i := 45) rfl)) (hw _ (List.mem_of_getElem? (i := 46) rfl)) (notFace_of_selects (args := #[]) (mvT hZ (hw _ (List.mem_of_getElem? (i := 48) rfl)))) (hw _ (List.mem_of_getElem? (i := 48) rfl)) (hw _ (List.mem_of_getElem? (i := 47) rfl)) (hw _ (List.mem_of_getElem? (i := 49) rfl)) (hw _ (List.mem_of_getElem? (i := 14) rfl)) (by decide) P341.1 0 rfl (rm8 l Z a0 hw pb T341.heap n0 nu P341.2.2.2.2.1) (by decide) (by decide) (by decide) (by decide) (by rw [hml]; rfl) (a := pb) (as := []) (rest := []) pd_3 rfl (by first | exact Nat.le_refl _ | simp [Value.category]) (q := 415) rfl (hb hby at_412) ?_
        rintro _ T342 L342 X342 ⟨rfl, N342q, e342⟩
        have N342 := Fr.app N341 N342q
        show End _ _ _ _ _ _ _ (T342.setTop (mkF m 415 #[.val (.int x0), .val (.int x1), .val (.int x2), .val (.int x3), .val (.int nu), .val (.int sel), .val (.int (5 : Int32)), .val (.long ky), .second, .val (.int mn), .val (.int len), .val (.ref ar), .val (.int (4 : Int32)), .val (.int pp), .val (.ref pe), .val (.int (0 : Int32)), .val (.ref pb), .val (.int (1 : Int32)), .unset, .unset, .unset, .unset, .unset] [(.int nu)]))
        refine k_istore X342 hx (L' := #[.val (.int x0), .val (.int x1), .val (.int x2), .val (.int x3), .val (.int nu), .val (.int sel), .val (.int (5 : Int32)), .val (.long ky), .second, .val (.int mn), .val (.int len), .val (.ref ar), .val (.int (4 : Int32)), .val (.int pp), .val (.ref pe), .val (.int (0 : Int32)), .val (.ref pb), .val (.int (1 : Int32)), .val (.int nu), .unset, .unset, .unset, .unset]) (q := 417) rfl (hb hby at_415) rfl ?_
        refine k_aload X342 hx (q := 419) rfl (hb hby at_417) rfl rfl ?_
        have G343 := (G340.keep K341 (ninS ne_ar_pb nin0))
        refine k_callV X342 hx hZ (y := (⟨"com/example/footwise/footwise/osm/Protobuf", "skip", "()V"⟩ : MethodName)) (z := (⟨"com/example/footwise/footwise/osm/Protobuf", "skip", "()V"⟩ : MethodName)) hown (hw _ (List.mem_of_getElem? (i := 50) rfl)) (hw _ (List.mem_of_getElem? (i := 51) rfl)) (notFace_of_selects (args := #[]) (mvT hZ (hw _ (List.mem_of_getElem? (i := 53) rfl)))) (hw _ (List.mem_of_getElem? (i := 53) rfl)) (hw _ (List.mem_of_getElem? (i := 52) rfl)) (hw _ (List.mem_of_getElem? (i := 54) rfl)) (hw _ (List.mem_of_getElem? (i := 14) rfl)) (by decide) P341.1 0 e342 (rm9f l Z a0 hw pb T341.heap n0 ge_pb ar q1 _ nu P341 ne_ar_pb n 32 hq1 (own_nat (by decide)) (by decide) (by omega)) (by decide) (by decide) (by decide) (by decide) (by rw [hml]; rfl) (a := pb) (as := []) (rest := []) pd_9 rfl (by first | exact Nat.le_refl _ | simp [Value.category]) (q := 422) rfl (hb hby at_419) ?_
        rintro _ T344 L344 X344 ⟨rfl, N344q, K344, q2, hq2, P344⟩
        have N344 := Fr.app N342 N344q
        show End _ _ _ _ _ _ _ (T344.setTop (mkF m 422 #[.val (.int x0), .val (.int x1), .val (.int x2), .val (.int x3), .val (.int nu), .val (.int sel), .val (.int (5 : Int32)), .val (.long ky), .second, .val (.int mn), .val (.int len), .val (.ref ar), .val (.int (4 : Int32)), .val (.int pp), .val (.ref pe), .val (.int (0 : Int32)), .val (.ref pb), .val (.int (1 : Int32)), .val (.int nu), .unset, .unset, .unset, .unset] []))
        have hq2' : Ix q2 (n + 4) := by
          have e : n + 4 = (n + 4) := by omega
          rw [← e]; exact hq2
        refine k_aload X344 hx (q := 424) rfl (hb hby at_422) rfl rfl ?_
        have G345 := (G343.keep K344 (ninS ne_ar_pb nin0))
        have hr10 : (own_raw g (n + 4) (0 + 1)).toInt = 10 := by rw [own_raw1, g_p']; decide
        obtain ⟨e1, e2, e3, e4⟩ := own_fields (k := own_raw g (n + 4) (0 + 1)) (nu := 1) (w := 2) (by rw [hr10]; decide) (by decide) (by decide) (by decide) (by decide)
        refine k_callV X344 hx hZ (y := (⟨"com/example/footwise/footwise/osm/Protobuf", "next", "()Z"⟩ : MethodName)) (z := (⟨"com/example/footwise/footwise/osm/Protobuf", "next", "()Z"⟩ : MethodName)) hown (hw _ (List.mem_of_getElem? (i := 30) rfl)) (hw _ (List.mem_of_getElem? (i := 31) rfl)) (notFace_of_selects (args := #[]) (mvT hZ (hw _ (List.mem_of_getElem? (i := 33) rfl)))) (hw _ (List.mem_of_getElem? (i := 33) rfl)) (hw _ (List.mem_of_getElem? (i := 32) rfl)) (hw _ (List.mem_of_getElem? (i := 34) rfl)) (hw _ (List.mem_of_getElem? (i := 14) rfl)) (by decide) P344.1 0 rfl (rm6 l Z a0 hw pb T344.heap n0 ge_pb ar q2 _ nu (5 : Int32) P344 ne_ar_pb (n + 4) 32 hq2' (own_nat (by decide)) (by decide) 32 (by decide) g G345 0 (by decide) (fun t ht => by omega) (by rw [Nat.add_zero, Int32.lt_iff_toInt_lt, g_p']; decide) (by omega) _ rfl e1 e2) (by decide) (by decide) (by decide) (by decide) (by rw [hml]; rfl) (a := pb) (as := []) (rest := []) pd_8 rfl (by first | exact Nat.le_refl _ | simp [Value.category]) (q := 427) rfl (hb hby at_424) ?_
        rintro _ T346 L346 X346 ⟨rfl, N346q, K346, q3, hq3, P346⟩
        have N346 := Fr.app N344 N346q
        show End _ _ _ _ _ _ _ (T346.setTop (mkF m 427 #[.val (.int x0), .val (.int x1), .val (.int x2), .val (.int x3), .val (.int nu), .val (.int sel), .val (.int (5 : Int32)), .val (.long ky), .second, .val (.int mn), .val (.int len), .val (.ref ar), .val (.int (4 : Int32)), .val (.int pp), .val (.ref pe), .val (.int (0 : Int32)), .val (.ref pb), .val (.int (1 : Int32)), .val (.int nu), .unset, .unset, .unset, .unset] [(.int (1 : Int32))]))
        rw [e3, e4] at P346
        refine k_istore X346 hx (L' := #[.val (.int x0), .val (.int x1), .val (.int x2), .val (.int x3), .val (.int nu), .val (.int sel), .val (.int (5 : Int32)), .val (.long ky), .second, .val (.int mn), .val (.int len), .val (.ref ar), .val (.int (4 : Int32)), .val (.int pp), .val (.ref pe), .val (.int (0 : Int32)), .val (.ref pb), .val (.int (1 : Int32)), .val (.int nu), .val (.int (1 : Int32)), .unset, .unset, .unset]) (q := 429) rfl (hb hby at_427) rfl ?_
        refine k_aload X346 hx (q := 431) rfl (hb hby at_429) rfl rfl ?_
        refine k_callV X346 hx hZ (y := (⟨"com/example/footwise/footwise/osm/Protobuf", "field", "()I"⟩ : MethodName)) (z := (⟨"com/example/footwise/footwise/osm/Protobuf", "field", "()I"⟩ : MethodName)) hown (hw _ (List.mem_of_getElem? (i := 45) rfl)) (hw _ (List.mem_of_getElem? (i := 46) rfl)) (notFace_of_selects (args := #[]) (mvT hZ (hw _ (List.mem_of_getElem? (i := 48) rfl)))) (hw _ (List.mem_of_getElem? (i := 48) rfl)) (hw _ (List.mem_of_getElem? (i := 47) rfl)) (hw _ (List.mem_of_getElem? (i := 49) rfl)) (hw _ (List.mem_of_getElem? (i := 14) rfl)) (by decide) P346.1 0 rfl (rm8 l Z a0 hw pb T346.heap n0 1 P346.2.2.2.2.1) (by decide) (by decide) (by decide) (by decide) (by rw [hml]; rfl) (a := pb) (as := []) (rest := []) pd_3 rfl (by first | exact Nat.le_refl _ | simp [Value.category]) (q := 434) rfl (hb hby at_431) ?_
        rintro _ T347 L347 X347 ⟨rfl, N347q, e347⟩
        have N347 := Fr.app N346 N347q
        show End _ _ _ _ _ _ _ (T347.setTop (mkF m 434 #[.val (.int x0), .val (.int x1), .val (.int x2), .val (.int x3), .val (.int nu), .val (.int sel), .val (.int (5 : Int32)), .val (.long ky), .second, .val (.int mn), .val (.int len), .val (.ref ar), .val (.int (4 : Int32)), .val (.int pp), .val (.ref pe), .val (.int (0 : Int32)), .val (.ref pb), .val (.int (1 : Int32)), .val (.int nu), .val (.int (1 : Int32)), .unset, .unset, .unset] [(.int (1 : Int32))]))
        refine k_istore X347 hx (L' := #[.val (.int x0), .val (.int x1), .val (.int x2), .val (.int x3), .val (.int nu), .val (.int sel), .val (.int (5 : Int32)), .val (.long ky), .second, .val (.int mn), .val (.int len), .val (.ref ar), .val (.int (4 : Int32)), .val (.int pp), .val (.ref pe), .val (.int (0 : Int32)), .val (.ref pb), .val (.int (1 : Int32)), .val (.int nu), .val (.int (1 : Int32)), .val (.int (1 : Int32)), .unset, .unset]) (q := 436) rfl (hb hby at_434) rfl ?_
        refine k_aload X347 hx (q := 438) rfl (hb hby at_436) rfl rfl ?_
        have G348 := (G345.keep K346 (ninS ne_ar_pb nin0))
        have hrl : (own_raw g ((n + 4) + 0 + 1) (0 + 1)).toInt = ((30 - (n + 4) : Nat) : Int) := by
          rw [own_raw1, show ((n + 4) + 0 + 1) = (n + 4) + 1 by omega, g_p1']; omega
        refine k_callV X347 hx hZ (y := (⟨"com/example/footwise/footwise/osm/Protobuf", "skip", "()V"⟩ : MethodName)) (z := (⟨"com/example/footwise/footwise/osm/Protobuf", "skip", "()V"⟩ : MethodName)) hown (hw _ (List.mem_of_getElem? (i := 50) rfl)) (hw _ (List.mem_of_getElem? (i := 51) rfl)) (notFace_of_selects (args := #[]) (mvT hZ (hw _ (List.mem_of_getElem? (i := 53) rfl)))) (hw _ (List.mem_of_getElem? (i := 53) rfl)) (hw _ (List.mem_of_getElem? (i := 52) rfl)) (hw _ (List.mem_of_getElem? (i := 54) rfl)) (hw _ (List.mem_of_getElem? (i := 14) rfl)) (by decide) P346.1 0 e347 (rm9l l Z a0 hw pb T346.heap n0 ge_pb ar q3 _ 1 P346 ne_ar_pb ((n + 4) + 0 + 1) 32 hq3 (own_nat (by decide)) (by decide) 32 (by decide) g G348 0 (by decide) (fun t ht => by omega) (by rw [Nat.add_zero, show ((n + 4) + 0 + 1) = (n + 4) + 1 by omega, Int32.lt_iff_toInt_lt, g_p1']; have := own_z0; omega) (by omega) (30 - (n + 4)) hrl (by omega)) (by decide) (by decide) (by decide) (by decide) (by rw [hml]; rfl) (a := pb) (as := []) (rest := []) pd_9 rfl (by first | exact Nat.le_refl _ | simp [Value.category]) (q := 441) rfl (hb hby at_438) ?_
        rintro _ T349 L349 X349 ⟨rfl, N349q, K349, q4, hq4, P349⟩
        have N349 := Fr.app N347 N349q
        show End _ _ _ _ _ _ _ (T349.setTop (mkF m 441 #[.val (.int x0), .val (.int x1), .val (.int x2), .val (.int x3), .val (.int nu), .val (.int sel), .val (.int (5 : Int32)), .val (.long ky), .second, .val (.int mn), .val (.int len), .val (.ref ar), .val (.int (4 : Int32)), .val (.int pp), .val (.ref pe), .val (.int (0 : Int32)), .val (.ref pb), .val (.int (1 : Int32)), .val (.int nu), .val (.int (1 : Int32)), .val (.int (1 : Int32)), .unset, .unset] []))
        refine k_aload X349 hx (q := 443) rfl (hb hby at_441) rfl rfl ?_
        refine k_callV X349 hx hZ (y := (⟨"com/example/footwise/footwise/osm/Protobuf", "next", "()Z"⟩ : MethodName)) (z := (⟨"com/example/footwise/footwise/osm/Protobuf", "next", "()Z"⟩ : MethodName)) hown (hw _ (List.mem_of_getElem? (i := 30) rfl)) (hw _ (List.mem_of_getElem? (i := 31) rfl)) (notFace_of_selects (args := #[]) (mvT hZ (hw _ (List.mem_of_getElem? (i := 33) rfl)))) (hw _ (List.mem_of_getElem? (i := 33) rfl)) (hw _ (List.mem_of_getElem? (i := 32) rfl)) (hw _ (List.mem_of_getElem? (i := 34) rfl)) (hw _ (List.mem_of_getElem? (i := 14) rfl)) (by decide) P349.1 0 rfl (rm6e l Z a0 hw pb T349.heap n0 ge_pb ar q4 _ 1 2 P349 ne_ar_pb _ 32 hq4 (own_nat (by decide)) (by decide) (by omega)) (by decide) (by decide) (by decide) (by decide) (by rw [hml]; rfl) (a := pb) (as := []) (rest := []) pd_8 rfl (by first | exact Nat.le_refl _ | simp [Value.category]) (q := 446) rfl (hb hby at_443) ?_
        rintro _ T350 L350 X350 ⟨rfl, N350q, e350⟩
        have N350 := Fr.app N349 N350q
        show End _ _ _ _ _ _ _ (T350.setTop (mkF m 446 #[.val (.int x0), .val (.int x1), .val (.int x2), .val (.int x3), .val (.int nu), .val (.int sel), .val (.int (5 : Int32)), .val (.long ky), .second, .val (.int mn), .val (.int len), .val (.ref ar), .val (.int (4 : Int32)), .val (.int pp), .val (.ref pe), .val (.int (0 : Int32)), .val (.ref pb), .val (.int (1 : Int32)), .val (.int nu), .val (.int (1 : Int32)), .val (.int (1 : Int32)), .unset, .unset] [(.int (0 : Int32))]))
        refine k_istore X350 hx (L' := #[.val (.int x0), .val (.int x1), .val (.int x2), .val (.int x3), .val (.int nu), .val (.int sel), .val (.int (5 : Int32)), .val (.long ky), .second, .val (.int mn), .val (.int len), .val (.ref ar), .val (.int (4 : Int32)), .val (.int pp), .val (.ref pe), .val (.int (0 : Int32)), .val (.ref pb), .val (.int (1 : Int32)), .val (.int nu), .val (.int (1 : Int32)), .val (.int (1 : Int32)), .val (.int (0 : Int32)), .unset]) (q := 448) rfl (hb hby at_446) rfl ?_
        refine k_aload X350 hx (q := 450) rfl (hb hby at_448) rfl rfl ?_
        refine k_callV X350 hx hZ (y := (⟨"com/example/footwise/footwise/osm/Protobuf", "field", "()I"⟩ : MethodName)) (z := (⟨"com/example/footwise/footwise/osm/Protobuf", "field", "()I"⟩ : MethodName)) hown (hw _ (List.mem_of_getElem? (i := 45) rfl)) (hw _ (List.mem_of_getElem? (i := 46) rfl)) (notFace_of_selects (args := #[]) (mvT hZ (hw _ (List.mem_of_getElem? (i := 48) rfl)))) (hw _ (List.mem_of_getElem? (i := 48) rfl)) (hw _ (List.mem_of_getElem? (i := 47) rfl)) (hw _ (List.mem_of_getElem? (i := 49) rfl)) (hw _ (List.mem_of_getElem? (i := 14) rfl)) (by decide) P349.1 0 e350 (rm8 l Z a0 hw pb T349.heap n0 1 P349.2.2.2.2.1) (by decide) (by decide) (by decide) (by decide) (by rw [hml]; rfl) (a := pb) (as := []) (rest := []) pd_3 rfl (by first | exact Nat.le_refl _ | simp [Value.category]) (q := 453) rfl (hb hby at_450) ?_
        rintro _ T351 L351 X351 ⟨rfl, N351q, e351⟩
        have N351 := Fr.app N350 N351q
        show End _ _ _ _ _ _ _ (T351.setTop (mkF m 453 #[.val (.int x0), .val (.int x1), .val (.int x2), .val (.int x3), .val (.int nu), .val (.int sel), .val (.int (5 : Int32)), .val (.long ky), .second, .val (.int mn), .val (.int len), .val (.ref ar), .val (.int (4 : Int32)), .val (.int pp), .val (.ref pe), .val (.int (0 : Int32)), .val (.ref pb), .val (.int (1 : Int32)), .val (.int nu), .val (.int (1 : Int32)), .val (.int (1 : Int32)), .val (.int (0 : Int32)), .unset] [(.int (1 : Int32))]))
        refine k_istore X351 hx (L' := #[.val (.int x0), .val (.int x1), .val (.int x2), .val (.int x3), .val (.int nu), .val (.int sel), .val (.int (5 : Int32)), .val (.long ky), .second, .val (.int mn), .val (.int len), .val (.ref ar), .val (.int (4 : Int32)), .val (.int pp), .val (.ref pe), .val (.int (0 : Int32)), .val (.ref pb), .val (.int (1 : Int32)), .val (.int nu), .val (.int (1 : Int32)), .val (.int (1 : Int32)), .val (.int (0 : Int32)), .val (.int (1 : Int32))]) (q := 455) rfl (hb hby at_453) rfl ?_
        refine k_iload X351 hx (q := 457) rfl (hb hby at_455) rfl ?_
        refine k_if_ne X351 hx (q1 := 498) (q := 460) (by decide) (by decide) rfl (hb hby at_457) (fun hc => absurd rfl hc) (fun _ => ?_)
        refine k_iload X351 hx (q := 462) rfl (hb hby at_460) rfl ?_
        refine k_if_eq X351 hx (q1 := 498) (q := 465) (by decide) (by decide) rfl (hb hby at_462) (fun hc => absurd hc (by decide)) (fun _ => ?_)
        refine k_iload X351 hx (q := 467) rfl (hb hby at_465) rfl ?_
        refine k_iload X351 hx (q := 469) rfl (hb hby at_467) rfl ?_
        refine k_icmp_ne X351 hx (q1 := 498) (q := 472) (by decide) (by decide) rfl (hb hby at_469) (fun hc => absurd rfl hc) (fun _ => ?_)
        refine k_iload X351 hx (q := 474) rfl (hb hby at_472) rfl ?_
        refine k_if_eq X351 hx (q1 := 498) (q := 477) (by decide) (by decide) rfl (hb hby at_474) (fun hc => absurd hc (by decide)) (fun _ => ?_)
        refine k_iload X351 hx (q := 479) rfl (hb hby at_477) rfl ?_
        refine k_iconst X351 hx (v := (1 : Int32)) rfl (q := 480) rfl (hb hby at_479) ?_
        refine k_icmp_ne X351 hx (q1 := 498) (q := 483) (by decide) (by decide) rfl (hb hby at_480) (fun hc => absurd rfl hc) (fun _ => ?_)
        refine k_iload X351 hx (q := 485) rfl (hb hby at_483) rfl ?_
        refine k_if_ne X351 hx (q1 := 498) (q := 488) (by decide) (by decide) rfl (hb hby at_485) (fun hc => absurd rfl hc) (fun _ => ?_)
        refine k_iload X351 hx (q := 490) rfl (hb hby at_488) rfl ?_
        refine k_iconst X351 hx (v := (1 : Int32)) rfl (q := 491) rfl (hb hby at_490) ?_
        refine k_icmp_ne X351 hx (q1 := 498) (q := 494) (by decide) (by decide) rfl (hb hby at_491) (fun hc => absurd rfl hc) (fun _ => ?_)
        refine k_iconst X351 hx (v := (1 : Int32)) rfl (q := 495) rfl (hb hby at_494) ?_
        refine k_goto X351 hx (q := 499) (by decide) (by decide) (hb hby at_495) ?_
        exact k_retN X351 hx (t := .boolean) hlk (by decide) (by decide) hret (by simp) (hb hby at_499) ⟨rfl, N351⟩
      · refine k_iconst X0 hx (v := (2 : Int32)) rfl (q := 42) rfl (hb hby at_41) ?_
        refine k_goto X0 hx (q := 46) (by decide) (by decide) (hb hby at_42) ?_
        refine k_istore X0 hx (L' := #[.val (.int x0), .val (.int x1), .val (.int x2), .val (.int x3), .val (.int nu), .val (.int sel), .val (.int (2 : Int32)), .unset, .unset, .unset, .unset, .unset, .unset, .unset, .unset, .unset, .unset, .unset, .unset, .unset, .unset, .unset, .unset]) (q := 48) rfl (hb hby at_46) rfl ?_
        refine k_iload X0 hx (q := 50) rfl (hb hby at_48) rfl ?_
        refine k_i2l X0 hx (q := 51) rfl (hb hby at_50) ?_
        refine k_iconst X0 hx (v := (3 : Int32)) rfl (q := 52) rfl (hb hby at_51) ?_
        refine k_lshl X0 hx (q := 53) rfl (hb hby at_52) ?_
        refine k_iload X0 hx (q := 55) rfl (hb hby at_53) rfl ?_
        refine k_i2l X0 hx (q := 56) rfl (hb hby at_55) ?_
        refine k_lor X0 hx (q := 57) rfl (hb hby at_56) ?_
        refine k_lstore X0 hx (L' := #[.val (.int x0), .val (.int x1), .val (.int x2), .val (.int x3), .val (.int nu), .val (.int sel), .val (.int (2 : Int32)), .val (.long ((nu.toInt64 <<< ((3 : Int32) &&& 0x3f).toInt64) ||| (2 : Int32).toInt64)), .second, .unset, .unset, .unset, .unset, .unset, .unset, .unset, .unset, .unset, .unset, .unset, .unset, .unset, .unset]) (q := 59) rfl (hb hby at_57) rfl ?_
        have hky := own_key hnu1 hnu2 (2 : Int32) 2 (by decide) (by decide) (by decide)
        generalize hk0 : ((nu.toInt64 <<< ((3 : Int32) &&& 0x3f).toInt64) ||| (2 : Int32).toInt64) = ky
        rw [hk0] at hky
        refine k_lload X0 hx (q := 61) rfl (hb hby at_59) rfl ?_
        refine k_callS X0 hx hZ (y := (⟨"com/example/footwise/footwise/osm/ProtobufNextPinLaw", "minLen", "(J)I"⟩ : MethodName)) hown (hw _ (List.mem_of_getElem? (i := 2) rfl)) (hw _ (List.mem_of_getElem? (i := 3) rfl)) (hw _ (List.mem_of_getElem? (i := 4) rfl)) (hw _ (List.mem_of_getElem? (i := 5) rfl)) (by decide) 0 e0 (rm1 l Z a0 hw ky h0 n0) (by decide) (by decide) (by decide) (by decide) (by rw [hml]; rfl) (as := [(.long ky)]) (rest := []) pd_5 rfl (by first | exact Nat.le_refl _ | simp [Value.category]) (q := 64) rfl (hb hby at_61) ?_
        rintro _ T181 L181 X181 ⟨rfl, N181q, e181⟩
        have N181 := Fr.app N0 N181q
        show End _ _ _ _ _ _ _ (T181.setTop (mkF m 64 #[.val (.int x0), .val (.int x1), .val (.int x2), .val (.int x3), .val (.int nu), .val (.int sel), .val (.int (2 : Int32)), .val (.long ky), .second, .unset, .unset, .unset, .unset, .unset, .unset, .unset, .unset, .unset, .unset, .unset, .unset, .unset, .unset] [(.int (f1 ky))]))
        obtain ⟨m', hm1, hm5, hmn, hmk⟩ := own_mn (k := ky) (by omega)
        refine k_istore X181 hx (L' := #[.val (.int x0), .val (.int x1), .val (.int x2), .val (.int x3), .val (.int nu), .val (.int sel), .val (.int (2 : Int32)), .val (.long ky), .second, .val (.int (f1 ky)), .unset, .unset, .unset, .unset, .unset, .unset, .unset, .unset, .unset, .unset, .unset, .unset, .unset]) (q := 66) rfl (hb hby at_64) rfl ?_
        generalize hmn0 : (f1 ky) = mn
        rw [hmn0] at hmn
        obtain ⟨hnz, n, hmn', hn10, hlen⟩ := own_len x3 hmn hm1 hm5
        refine k_iload X181 hx (q := 68) rfl (hb hby at_66) rfl ?_
        refine k_iloadN X181 hx (q := 69) rfl (hb hby at_68) rfl ?_
        refine k_ldcI X181 hx hZ (v := (2147483647 : Int32)) hown (hw _ (List.mem_of_getElem? (i := 0) rfl)) (q := 71) rfl (hb hby at_69) ?_
        refine k_iand X181 hx (q := 72) rfl (hb hby at_71) ?_
        refine k_bipush X181 hx (v := (11 : Int32)) rfl (q := 74) rfl (hb hby at_72) ?_
        refine k_iload X181 hx (q := 76) rfl (hb hby at_74) rfl ?_
        refine k_isub X181 hx (q := 77) rfl (hb hby at_76) ?_
        refine k_irem X181 hx (q := 78) rfl (hb hby at_77) hnz ?_
        refine k_iadd X181 hx (q := 79) rfl (hb hby at_78) ?_
        refine k_istore X181 hx (L' := #[.val (.int x0), .val (.int x1), .val (.int x2), .val (.int x3), .val (.int nu), .val (.int sel), .val (.int (2 : Int32)), .val (.long ky), .second, .val (.int mn), .val (.int (mn + ((x3 &&& (2147483647 : Int32)) % ((11 : Int32) - mn)))), .unset, .unset, .unset, .unset, .unset, .unset, .unset, .unset, .unset, .unset, .unset, .unset]) (q := 81) rfl (hb hby at_79) rfl ?_
        generalize hln : (mn + ((x3 &&& (2147483647 : Int32)) % ((11 : Int32) - mn))) = len
        rw [hln] at hlen
        refine k_bipush X181 hx (v := (32 : Int32)) rfl (q := 83) rfl (hb hby at_81) ?_
        refine k_newP X181 hx hZ (hw _ (List.mem_of_getElem? (i := 7) rfl)) e181 (q := 85) rfl (hb hby at_83) (by decide) (cap := 32) (by decide) (by decide) (by decide) (by decide) ?_
        intro T182 h182 ar k182 X182 e182 g182 E182 A182
        have K182 := Keep.of_ext E182
        have V182 : Ary Z h182 ar .byte 32 (fun _ => .int (0 : Int32)) := Ary.new A182 (by decide) rfl
        refine k_astore X182 hx (L' := #[.val (.int x0), .val (.int x1), .val (.int x2), .val (.int x3), .val (.int nu), .val (.int sel), .val (.int (2 : Int32)), .val (.long ky), .second, .val (.int mn), .val (.int len), .val (.ref ar), .unset, .unset, .unset, .unset, .unset, .unset, .unset, .unset, .unset, .unset, .unset]) (q := 87) rfl (hb hby at_85) rfl rfl ?_
        refine k_aload X182 hx (q := 89) rfl (hb hby at_87) rfl rfl ?_
        refine k_iconst X182 hx (v := (0 : Int32)) rfl (q := 90) rfl (hb hby at_89) ?_
        refine k_lload X182 hx (q := 92) rfl (hb hby at_90) rfl ?_
        refine k_iconst X182 hx (v := (0 : Int32)) rfl (q := 93) rfl (hb hby at_92) ?_
        refine k_iload X182 hx (q := 95) rfl (hb hby at_93) rfl ?_
        refine k_callS X182 hx hZ (y := (⟨"com/example/footwise/footwise/osm/ProtobufNextPinLaw", "enc", "(JII)B"⟩ : MethodName)) hown (hw _ (List.mem_of_getElem? (i := 8) rfl)) (hw _ (List.mem_of_getElem? (i := 9) rfl)) (hw _ (List.mem_of_getElem? (i := 4) rfl)) (hw _ (List.mem_of_getElem? (i := 10) rfl)) (by decide) 2 e182 (rm2 l Z a0 hw ky (0 : Int32) len h182 n0) (by decide) (by decide) (by decide) (by decide) (by rw [hml]; rfl) (as := [(.long ky), (.int (0 : Int32)), (.int len)]) (rest := [(.int (0 : Int32)), (.ref ar)]) pd_6 rfl (by first | exact Nat.le_refl _ | simp [Value.category]) (q := 98) rfl (hb hby at_95) ?_
        rintro _ T183 L183 X183 ⟨rfl, N183q, e183⟩
        have N183 := Fr.app N181 N183q
        show End _ _ _ _ _ _ _ (T183.setTop (mkF m 98 #[.val (.int x0), .val (.int x1), .val (.int x2), .val (.int x3), .val (.int nu), .val (.int sel), .val (.int (2 : Int32)), .val (.long ky), .second, .val (.int mn), .val (.int len), .val (.ref ar), .unset, .unset, .unset, .unset, .unset, .unset, .unset, .unset, .unset, .unset, .unset] [(.int (f2 ky (0 : Int32) len)), (.int (0 : Int32)), (.ref ar)]))
        have ge_ar : n0 ≤ ar := Nat.le_trans Z0 (Nat.le_of_eq g182.symm)
        refine k_asB X183 hx hZ e183 0 (q := 99) rfl (hb hby at_98) V182 ⟨by decide, by decide⟩ (by decide) ?_
        intro T184 h184 X184 e184 W184 V184
        have K184 := Keep.of_wr W184
        have N184 := Fr.snoc X184 N183 ge_ar
        refine k_aload X184 hx (q := 101) rfl (hb hby at_99) rfl rfl ?_
        refine k_iconst X184 hx (v := (1 : Int32)) rfl (q := 102) rfl (hb hby at_101) ?_
        refine k_lload X184 hx (q := 104) rfl (hb hby at_102) rfl ?_
        refine k_iconst X184 hx (v := (1 : Int32)) rfl (q := 105) rfl (hb hby at_104) ?_
        refine k_iload X184 hx (q := 107) rfl (hb hby at_105) rfl ?_
        refine k_callS X184 hx hZ (y := (⟨"com/example/footwise/footwise/osm/ProtobufNextPinLaw", "enc", "(JII)B"⟩ : MethodName)) hown (hw _ (List.mem_of_getElem? (i := 8) rfl)) (hw _ (List.mem_of_getElem? (i := 9) rfl)) (hw _ (List.mem_of_getElem? (i := 4) rfl)) (hw _ (List.mem_of_getElem? (i := 10) rfl)) (by decide) 2 e184 (rm2 l Z a0 hw ky (1 : Int32) len h184 n0) (by decide) (by decide) (by decide) (by decide) (by rw [hml]; rfl) (as := [(.long ky), (.int (1 : Int32)), (.int len)]) (rest := [(.int (1 : Int32)), (.ref ar)]) pd_6 rfl (by first | exact Nat.le_refl _ | simp [Value.category]) (q := 110) rfl (hb hby at_107) ?_
        rintro _ T185 L185 X185 ⟨rfl, N185q, e185⟩
        have N185 := Fr.app N184 N185q
        show End _ _ _ _ _ _ _ (T185.setTop (mkF m 110 #[.val (.int x0), .val (.int x1), .val (.int x2), .val (.int x3), .val (.int nu), .val (.int sel), .val (.int (2 : Int32)), .val (.long ky), .second, .val (.int mn), .val (.int len), .val (.ref ar), .unset, .unset, .unset, .unset, .unset, .unset, .unset, .unset, .unset, .unset, .unset] [(.int (f2 ky (1 : Int32) len)), (.int (1 : Int32)), (.ref ar)]))
        refine k_asB X185 hx hZ e185 1 (q := 111) rfl (hb hby at_110) V184 ⟨by decide, by decide⟩ (by decide) ?_
        intro T186 h186 X186 e186 W186 V186
        have K186 := Keep.of_wr W186
        have N186 := Fr.snoc X186 N185 ge_ar
        refine k_aload X186 hx (q := 113) rfl (hb hby at_111) rfl rfl ?_
        refine k_iconst X186 hx (v := (2 : Int32)) rfl (q := 114) rfl (hb hby at_113) ?_
        refine k_lload X186 hx (q := 116) rfl (hb hby at_114) rfl ?_
        refine k_iconst X186 hx (v := (2 : Int32)) rfl (q := 117) rfl (hb hby at_116) ?_
        refine k_iload X186 hx (q := 119) rfl (hb hby at_117) rfl ?_
        refine k_callS X186 hx hZ (y := (⟨"com/example/footwise/footwise/osm/ProtobufNextPinLaw", "enc", "(JII)B"⟩ : MethodName)) hown (hw _ (List.mem_of_getElem? (i := 8) rfl)) (hw _ (List.mem_of_getElem? (i := 9) rfl)) (hw _ (List.mem_of_getElem? (i := 4) rfl)) (hw _ (List.mem_of_getElem? (i := 10) rfl)) (by decide) 2 e186 (rm2 l Z a0 hw ky (2 : Int32) len h186 n0) (by decide) (by decide) (by decide) (by decide) (by rw [hml]; rfl) (as := [(.long ky), (.int (2 : Int32)), (.int len)]) (rest := [(.int (2 : Int32)), (.ref ar)]) pd_6 rfl (by first | exact Nat.le_refl _ | simp [Value.category]) (q := 122) rfl (hb hby at_119) ?_
        rintro _ T187 L187 X187 ⟨rfl, N187q, e187⟩
        have N187 := Fr.app N186 N187q
        show End _ _ _ _ _ _ _ (T187.setTop (mkF m 122 #[.val (.int x0), .val (.int x1), .val (.int x2), .val (.int x3), .val (.int nu), .val (.int sel), .val (.int (2 : Int32)), .val (.long ky), .second, .val (.int mn), .val (.int len), .val (.ref ar), .unset, .unset, .unset, .unset, .unset, .unset, .unset, .unset, .unset, .unset, .unset] [(.int (f2 ky (2 : Int32) len)), (.int (2 : Int32)), (.ref ar)]))
        refine k_asB X187 hx hZ e187 2 (q := 123) rfl (hb hby at_122) V186 ⟨by decide, by decide⟩ (by decide) ?_
        intro T188 h188 X188 e188 W188 V188
        have K188 := Keep.of_wr W188
        have N188 := Fr.snoc X188 N187 ge_ar
        refine k_aload X188 hx (q := 125) rfl (hb hby at_123) rfl rfl ?_
        refine k_iconst X188 hx (v := (3 : Int32)) rfl (q := 126) rfl (hb hby at_125) ?_
        refine k_lload X188 hx (q := 128) rfl (hb hby at_126) rfl ?_
        refine k_iconst X188 hx (v := (3 : Int32)) rfl (q := 129) rfl (hb hby at_128) ?_
        refine k_iload X188 hx (q := 131) rfl (hb hby at_129) rfl ?_
        refine k_callS X188 hx hZ (y := (⟨"com/example/footwise/footwise/osm/ProtobufNextPinLaw", "enc", "(JII)B"⟩ : MethodName)) hown (hw _ (List.mem_of_getElem? (i := 8) rfl)) (hw _ (List.mem_of_getElem? (i := 9) rfl)) (hw _ (List.mem_of_getElem? (i := 4) rfl)) (hw _ (List.mem_of_getElem? (i := 10) rfl)) (by decide) 2 e188 (rm2 l Z a0 hw ky (3 : Int32) len h188 n0) (by decide) (by decide) (by decide) (by decide) (by rw [hml]; rfl) (as := [(.long ky), (.int (3 : Int32)), (.int len)]) (rest := [(.int (3 : Int32)), (.ref ar)]) pd_6 rfl (by first | exact Nat.le_refl _ | simp [Value.category]) (q := 134) rfl (hb hby at_131) ?_
        rintro _ T189 L189 X189 ⟨rfl, N189q, e189⟩
        have N189 := Fr.app N188 N189q
        show End _ _ _ _ _ _ _ (T189.setTop (mkF m 134 #[.val (.int x0), .val (.int x1), .val (.int x2), .val (.int x3), .val (.int nu), .val (.int sel), .val (.int (2 : Int32)), .val (.long ky), .second, .val (.int mn), .val (.int len), .val (.ref ar), .unset, .unset, .unset, .unset, .unset, .unset, .unset, .unset, .unset, .unset, .unset] [(.int (f2 ky (3 : Int32) len)), (.int (3 : Int32)), (.ref ar)]))
        refine k_asB X189 hx hZ e189 3 (q := 135) rfl (hb hby at_134) V188 ⟨by decide, by decide⟩ (by decide) ?_
        intro T190 h190 X190 e190 W190 V190
        have K190 := Keep.of_wr W190
        have N190 := Fr.snoc X190 N189 ge_ar
        refine k_aload X190 hx (q := 137) rfl (hb hby at_135) rfl rfl ?_
        refine k_iconst X190 hx (v := (4 : Int32)) rfl (q := 138) rfl (hb hby at_137) ?_
        refine k_lload X190 hx (q := 140) rfl (hb hby at_138) rfl ?_
        refine k_iconst X190 hx (v := (4 : Int32)) rfl (q := 141) rfl (hb hby at_140) ?_
        refine k_iload X190 hx (q := 143) rfl (hb hby at_141) rfl ?_
        refine k_callS X190 hx hZ (y := (⟨"com/example/footwise/footwise/osm/ProtobufNextPinLaw", "enc", "(JII)B"⟩ : MethodName)) hown (hw _ (List.mem_of_getElem? (i := 8) rfl)) (hw _ (List.mem_of_getElem? (i := 9) rfl)) (hw _ (List.mem_of_getElem? (i := 4) rfl)) (hw _ (List.mem_of_getElem? (i := 10) rfl)) (by decide) 2 e190 (rm2 l Z a0 hw ky (4 : Int32) len h190 n0) (by decide) (by decide) (by decide) (by decide) (by rw [hml]; rfl) (as := [(.long ky), (.int (4 : Int32)), (.int len)]) (rest := [(.int (4 : Int32)), (.ref ar)]) pd_6 rfl (by first | exact Nat.le_refl _ | simp [Value.category]) (q := 146) rfl (hb hby at_143) ?_
        rintro _ T191 L191 X191 ⟨rfl, N191q, e191⟩
        have N191 := Fr.app N190 N191q
        show End _ _ _ _ _ _ _ (T191.setTop (mkF m 146 #[.val (.int x0), .val (.int x1), .val (.int x2), .val (.int x3), .val (.int nu), .val (.int sel), .val (.int (2 : Int32)), .val (.long ky), .second, .val (.int mn), .val (.int len), .val (.ref ar), .unset, .unset, .unset, .unset, .unset, .unset, .unset, .unset, .unset, .unset, .unset] [(.int (f2 ky (4 : Int32) len)), (.int (4 : Int32)), (.ref ar)]))
        refine k_asB X191 hx hZ e191 4 (q := 147) rfl (hb hby at_146) V190 ⟨by decide, by decide⟩ (by decide) ?_
        intro T192 h192 X192 e192 W192 V192
        have K192 := Keep.of_wr W192
        have N192 := Fr.snoc X192 N191 ge_ar
        refine k_aload X192 hx (q := 149) rfl (hb hby at_147) rfl rfl ?_
        refine k_iconst X192 hx (v := (5 : Int32)) rfl (q := 150) rfl (hb hby at_149) ?_
        refine k_lload X192 hx (q := 152) rfl (hb hby at_150) rfl ?_
        refine k_iconst X192 hx (v := (5 : Int32)) rfl (q := 153) rfl (hb hby at_152) ?_
        refine k_iload X192 hx (q := 155) rfl (hb hby at_153) rfl ?_
        refine k_callS X192 hx hZ (y := (⟨"com/example/footwise/footwise/osm/ProtobufNextPinLaw", "enc", "(JII)B"⟩ : MethodName)) hown (hw _ (List.mem_of_getElem? (i := 8) rfl)) (hw _ (List.mem_of_getElem? (i := 9) rfl)) (hw _ (List.mem_of_getElem? (i := 4) rfl)) (hw _ (List.mem_of_getElem? (i := 10) rfl)) (by decide) 2 e192 (rm2 l Z a0 hw ky (5 : Int32) len h192 n0) (by decide) (by decide) (by decide) (by decide) (by rw [hml]; rfl) (as := [(.long ky), (.int (5 : Int32)), (.int len)]) (rest := [(.int (5 : Int32)), (.ref ar)]) pd_6 rfl (by first | exact Nat.le_refl _ | simp [Value.category]) (q := 158) rfl (hb hby at_155) ?_
        rintro _ T193 L193 X193 ⟨rfl, N193q, e193⟩
        have N193 := Fr.app N192 N193q
        show End _ _ _ _ _ _ _ (T193.setTop (mkF m 158 #[.val (.int x0), .val (.int x1), .val (.int x2), .val (.int x3), .val (.int nu), .val (.int sel), .val (.int (2 : Int32)), .val (.long ky), .second, .val (.int mn), .val (.int len), .val (.ref ar), .unset, .unset, .unset, .unset, .unset, .unset, .unset, .unset, .unset, .unset, .unset] [(.int (f2 ky (5 : Int32) len)), (.int (5 : Int32)), (.ref ar)]))
        refine k_asB X193 hx hZ e193 5 (q := 159) rfl (hb hby at_158) V192 ⟨by decide, by decide⟩ (by decide) ?_
        intro T194 h194 X194 e194 W194 V194
        have K194 := Keep.of_wr W194
        have N194 := Fr.snoc X194 N193 ge_ar
        refine k_aload X194 hx (q := 161) rfl (hb hby at_159) rfl rfl ?_
        refine k_bipush X194 hx (v := (6 : Int32)) rfl (q := 163) rfl (hb hby at_161) ?_
        refine k_lload X194 hx (q := 165) rfl (hb hby at_163) rfl ?_
        refine k_bipush X194 hx (v := (6 : Int32)) rfl (q := 167) rfl (hb hby at_165) ?_
        refine k_iload X194 hx (q := 169) rfl (hb hby at_167) rfl ?_
        refine k_callS X194 hx hZ (y := (⟨"com/example/footwise/footwise/osm/ProtobufNextPinLaw", "enc", "(JII)B"⟩ : MethodName)) hown (hw _ (List.mem_of_getElem? (i := 8) rfl)) (hw _ (List.mem_of_getElem? (i := 9) rfl)) (hw _ (List.mem_of_getElem? (i := 4) rfl)) (hw _ (List.mem_of_getElem? (i := 10) rfl)) (by decide) 2 e194 (rm2 l Z a0 hw ky (6 : Int32) len h194 n0) (by decide) (by decide) (by decide) (by decide) (by rw [hml]; rfl) (as := [(.long ky), (.int (6 : Int32)), (.int len)]) (rest := [(.int (6 : Int32)), (.ref ar)]) pd_6 rfl (by first | exact Nat.le_refl _ | simp [Value.category]) (q := 172) rfl (hb hby at_169) ?_
        rintro _ T195 L195 X195 ⟨rfl, N195q, e195⟩
        have N195 := Fr.app N194 N195q
        show End _ _ _ _ _ _ _ (T195.setTop (mkF m 172 #[.val (.int x0), .val (.int x1), .val (.int x2), .val (.int x3), .val (.int nu), .val (.int sel), .val (.int (2 : Int32)), .val (.long ky), .second, .val (.int mn), .val (.int len), .val (.ref ar), .unset, .unset, .unset, .unset, .unset, .unset, .unset, .unset, .unset, .unset, .unset] [(.int (f2 ky (6 : Int32) len)), (.int (6 : Int32)), (.ref ar)]))
        refine k_asB X195 hx hZ e195 6 (q := 173) rfl (hb hby at_172) V194 ⟨by decide, by decide⟩ (by decide) ?_
        intro T196 h196 X196 e196 W196 V196
        have K196 := Keep.of_wr W196
        have N196 := Fr.snoc X196 N195 ge_ar
        refine k_aload X196 hx (q := 175) rfl (hb hby at_173) rfl rfl ?_
        refine k_bipush X196 hx (v := (7 : Int32)) rfl (q := 177) rfl (hb hby at_175) ?_
        refine k_lload X196 hx (q := 179) rfl (hb hby at_177) rfl ?_
        refine k_bipush X196 hx (v := (7 : Int32)) rfl (q := 181) rfl (hb hby at_179) ?_
        refine k_iload X196 hx (q := 183) rfl (hb hby at_181) rfl ?_
        refine k_callS X196 hx hZ (y := (⟨"com/example/footwise/footwise/osm/ProtobufNextPinLaw", "enc", "(JII)B"⟩ : MethodName)) hown (hw _ (List.mem_of_getElem? (i := 8) rfl)) (hw _ (List.mem_of_getElem? (i := 9) rfl)) (hw _ (List.mem_of_getElem? (i := 4) rfl)) (hw _ (List.mem_of_getElem? (i := 10) rfl)) (by decide) 2 e196 (rm2 l Z a0 hw ky (7 : Int32) len h196 n0) (by decide) (by decide) (by decide) (by decide) (by rw [hml]; rfl) (as := [(.long ky), (.int (7 : Int32)), (.int len)]) (rest := [(.int (7 : Int32)), (.ref ar)]) pd_6 rfl (by first | exact Nat.le_refl _ | simp [Value.category]) (q := 186) rfl (hb hby at_183) ?_
        rintro _ T197 L197 X197 ⟨rfl, N197q, e197⟩
        have N197 := Fr.app N196 N197q
        show End _ _ _ _ _ _ _ (T197.setTop (mkF m 186 #[.val (.int x0), .val (.int x1), .val (.int x2), .val (.int x3), .val (.int nu), .val (.int sel), .val (.int (2 : Int32)), .val (.long ky), .second, .val (.int mn), .val (.int len), .val (.ref ar), .unset, .unset, .unset, .unset, .unset, .unset, .unset, .unset, .unset, .unset, .unset] [(.int (f2 ky (7 : Int32) len)), (.int (7 : Int32)), (.ref ar)]))
        refine k_asB X197 hx hZ e197 7 (q := 187) rfl (hb hby at_186) V196 ⟨by decide, by decide⟩ (by decide) ?_
        intro T198 h198 X198 e198 W198 V198
        have K198 := Keep.of_wr W198
        have N198 := Fr.snoc X198 N197 ge_ar
        refine k_aload X198 hx (q := 189) rfl (hb hby at_187) rfl rfl ?_
        refine k_bipush X198 hx (v := (8 : Int32)) rfl (q := 191) rfl (hb hby at_189) ?_
        refine k_lload X198 hx (q := 193) rfl (hb hby at_191) rfl ?_
        refine k_bipush X198 hx (v := (8 : Int32)) rfl (q := 195) rfl (hb hby at_193) ?_
        refine k_iload X198 hx (q := 197) rfl (hb hby at_195) rfl ?_
        refine k_callS X198 hx hZ (y := (⟨"com/example/footwise/footwise/osm/ProtobufNextPinLaw", "enc", "(JII)B"⟩ : MethodName)) hown (hw _ (List.mem_of_getElem? (i := 8) rfl)) (hw _ (List.mem_of_getElem? (i := 9) rfl)) (hw _ (List.mem_of_getElem? (i := 4) rfl)) (hw _ (List.mem_of_getElem? (i := 10) rfl)) (by decide) 2 e198 (rm2 l Z a0 hw ky (8 : Int32) len h198 n0) (by decide) (by decide) (by decide) (by decide) (by rw [hml]; rfl) (as := [(.long ky), (.int (8 : Int32)), (.int len)]) (rest := [(.int (8 : Int32)), (.ref ar)]) pd_6 rfl (by first | exact Nat.le_refl _ | simp [Value.category]) (q := 200) rfl (hb hby at_197) ?_
        rintro _ T199 L199 X199 ⟨rfl, N199q, e199⟩
        have N199 := Fr.app N198 N199q
        show End _ _ _ _ _ _ _ (T199.setTop (mkF m 200 #[.val (.int x0), .val (.int x1), .val (.int x2), .val (.int x3), .val (.int nu), .val (.int sel), .val (.int (2 : Int32)), .val (.long ky), .second, .val (.int mn), .val (.int len), .val (.ref ar), .unset, .unset, .unset, .unset, .unset, .unset, .unset, .unset, .unset, .unset, .unset] [(.int (f2 ky (8 : Int32) len)), (.int (8 : Int32)), (.ref ar)]))
        refine k_asB X199 hx hZ e199 8 (q := 201) rfl (hb hby at_200) V198 ⟨by decide, by decide⟩ (by decide) ?_
        intro T200 h200 X200 e200 W200 V200
        have K200 := Keep.of_wr W200
        have N200 := Fr.snoc X200 N199 ge_ar
        refine k_aload X200 hx (q := 203) rfl (hb hby at_201) rfl rfl ?_
        refine k_bipush X200 hx (v := (9 : Int32)) rfl (q := 205) rfl (hb hby at_203) ?_
        refine k_lload X200 hx (q := 207) rfl (hb hby at_205) rfl ?_
        refine k_bipush X200 hx (v := (9 : Int32)) rfl (q := 209) rfl (hb hby at_207) ?_
        refine k_iload X200 hx (q := 211) rfl (hb hby at_209) rfl ?_
        refine k_callS X200 hx hZ (y := (⟨"com/example/footwise/footwise/osm/ProtobufNextPinLaw", "enc", "(JII)B"⟩ : MethodName)) hown (hw _ (List.mem_of_getElem? (i := 8) rfl)) (hw _ (List.mem_of_getElem? (i := 9) rfl)) (hw _ (List.mem_of_getElem? (i := 4) rfl)) (hw _ (List.mem_of_getElem? (i := 10) rfl)) (by decide) 2 e200 (rm2 l Z a0 hw ky (9 : Int32) len h200 n0) (by decide) (by decide) (by decide) (by decide) (by rw [hml]; rfl) (as := [(.long ky), (.int (9 : Int32)), (.int len)]) (rest := [(.int (9 : Int32)), (.ref ar)]) pd_6 rfl (by first | exact Nat.le_refl _ | simp [Value.category]) (q := 214) rfl (hb hby at_211) ?_
        rintro _ T201 L201 X201 ⟨rfl, N201q, e201⟩
        have N201 := Fr.app N200 N201q
        show End _ _ _ _ _ _ _ (T201.setTop (mkF m 214 #[.val (.int x0), .val (.int x1), .val (.int x2), .val (.int x3), .val (.int nu), .val (.int sel), .val (.int (2 : Int32)), .val (.long ky), .second, .val (.int mn), .val (.int len), .val (.ref ar), .unset, .unset, .unset, .unset, .unset, .unset, .unset, .unset, .unset, .unset, .unset] [(.int (f2 ky (9 : Int32) len)), (.int (9 : Int32)), (.ref ar)]))
        refine k_asB X201 hx hZ e201 9 (q := 215) rfl (hb hby at_214) V200 ⟨by decide, by decide⟩ (by decide) ?_
        intro T202 h202 X202 e202 W202 V202
        have K202 := Keep.of_wr W202
        have N202 := Fr.snoc X202 N201 ge_ar
        have Ve : Ary Z h202 ar .byte 32 (fun t => .int (if t < 10 then nar .byte (f2 ky t.toInt32 len) else 0)) := V202.congr fun t ht => by
          by_cases q : t < 10
          · have : t = 0 ∨ t = 1 ∨ t = 2 ∨ t = 3 ∨ t = 4 ∨ t = 5 ∨ t = 6 ∨ t = 7 ∨ t = 8 ∨ t = 9 := by omega
            rcases this with rfl | rfl | rfl | rfl | rfl | rfl | rfl | rfl | rfl | rfl <;> rfl
          · simp only [if_neg q, if_neg (show ¬ t = 0 by omega), if_neg (show ¬ t = 1 by omega), if_neg (show ¬ t = 2 by omega), if_neg (show ¬ t = 3 by omega), if_neg (show ¬ t = 4 by omega), if_neg (show ¬ t = 5 by omega), if_neg (show ¬ t = 6 by omega), if_neg (show ¬ t = 7 by omega), if_neg (show ¬ t = 8 by omega), if_neg (show ¬ t = 9 by omega)]
        refine k_iload X202 hx (q := 217) rfl (hb hby at_215) rfl ?_
        refine k_if_ne X202 hx (q1 := 255) (q := 220) (by decide) (by decide) rfl (hb hby at_217) (fun _ => ?_) (fun hc => absurd hc (by decide))
        refine k_iload X202 hx (q := 257) rfl (hb hby at_255) rfl ?_
        refine k_iconst X202 hx (v := (1 : Int32)) rfl (q := 258) rfl (hb hby at_257) ?_
        refine k_icmp_ne X202 hx (q1 := 290) (q := 261) (by decide) (by decide) rfl (hb hby at_258) (fun _ => ?_) (fun hc => absurd hc (by decide))
        refine k_iload X202 hx (q := 292) rfl (hb hby at_290) rfl ?_
        refine k_iconst X202 hx (v := (2 : Int32)) rfl (q := 293) rfl (hb hby at_292) ?_
        refine k_icmp_ne X202 hx (q1 := 319) (q := 296) (by decide) (by decide) rfl (hb hby at_293) (fun hc => absurd rfl hc) (fun _ => ?_)
        refine k_iloadN X202 hx (q := 297) rfl (hb hby at_296) rfl ?_
        refine k_bipush X202 hx (v := (7 : Int32)) rfl (q := 299) rfl (hb hby at_297) ?_
        refine k_iand X202 hx (q := 300) rfl (hb hby at_299) ?_
        obtain ⟨k, hk7, hkx⟩ := own_mask7 x2
        refine k_istore X202 hx (L' := #[.val (.int x0), .val (.int x1), .val (.int x2), .val (.int x3), .val (.int nu), .val (.int sel), .val (.int (2 : Int32)), .val (.long ky), .second, .val (.int mn), .val (.int len), .val (.ref ar), .unset, .val (.int (x2 &&& (7 : Int32))), .unset, .unset, .unset, .unset, .unset, .unset, .unset, .unset, .unset]) (q := 302) rfl (hb hby at_300) rfl ?_
        refine k_aload X202 hx (q := 304) rfl (hb hby at_302) rfl rfl ?_
        refine k_iload X202 hx (q := 306) rfl (hb hby at_304) rfl ?_
        refine k_iload X202 hx (q := 308) rfl (hb hby at_306) rfl ?_
        refine k_i2b X202 hx (q := 309) rfl (hb hby at_308) ?_
        generalize hkk : (x2 &&& (7 : Int32)) = kk
        rw [hkk] at hkx
        refine k_asB X202 hx hZ e202 n (q := 310) rfl (hb hby at_309) Ve hlen (by omega) ?_
        intro T206 h206 X206 e206 W206 V206
        have K206 := Keep.of_wr W206
        have N206 := Fr.snoc X206 N202 ge_ar
        refine k_iconst X206 hx (v := (1 : Int32)) rfl (q := 311) rfl (hb hby at_310) ?_
        refine k_iload X206 hx (q := 313) rfl (hb hby at_311) rfl ?_
        refine k_iadd X206 hx (q := 314) rfl (hb hby at_313) ?_
        refine k_istore X206 hx (L' := #[.val (.int x0), .val (.int x1), .val (.int x2), .val (.int x3), .val (.int nu), .val (.int sel), .val (.int (2 : Int32)), .val (.long ky), .second, .val (.int mn), .val (.int len), .val (.ref ar), .val (.int ((1 : Int32) + kk)), .val (.int kk), .unset, .unset, .unset, .unset, .unset, .unset, .unset, .unset, .unset]) (q := 316) rfl (hb hby at_314) rfl ?_
        refine k_goto X206 hx (q := 344) (by decide) (by decide) (hb hby at_316) ?_
        refine k_iload X206 hx (q := 346) rfl (hb hby at_344) rfl ?_
        refine k_iload X206 hx (q := 348) rfl (hb hby at_346) rfl ?_
        refine k_iadd X206 hx (q := 349) rfl (hb hby at_348) ?_
        refine k_istore X206 hx (L' := #[.val (.int x0), .val (.int x1), .val (.int x2), .val (.int x3), .val (.int nu), .val (.int sel), .val (.int (2 : Int32)), .val (.long ky), .second, .val (.int mn), .val (.int len), .val (.ref ar), .val (.int ((1 : Int32) + kk)), .val (.int (len + ((1 : Int32) + kk))), .unset, .unset, .unset, .unset, .unset, .unset, .unset, .unset, .unset]) (q := 351) rfl (hb hby at_349) rfl ?_
        have hp : Ix (len + ((1 : Int32) + kk)) (n + (1 + k)) := own_addi hlen (own_addi (x := 1) (a := 1) ⟨by decide, by decide⟩ hkx (by omega)) (by omega)
        generalize hpp : (len + ((1 : Int32) + kk)) = pp
        rw [hpp] at hp
        refine k_aload X206 hx (q := 353) rfl (hb hby at_351) rfl rfl ?_
        refine k_iload X206 hx (q := 355) rfl (hb hby at_353) rfl ?_
        refine k_bipush X206 hx (v := (10 : Int32)) rfl (q := 357) rfl (hb hby at_355) ?_
        refine k_asB X206 hx hZ e206 (n + (1 + k)) (q := 358) rfl (hb hby at_357) V206 hp (by omega) ?_
        intro T207 h207 X207 e207 W207 V207
        have K207 := Keep.of_wr W207
        have N207 := Fr.snoc X207 N206 ge_ar
        have hp1 := own_up hp (by omega)
        refine k_aload X207 hx (q := 360) rfl (hb hby at_358) rfl rfl ?_
        refine k_iload X207 hx (q := 362) rfl (hb hby at_360) rfl ?_
        refine k_iconst X207 hx (v := (1 : Int32)) rfl (q := 363) rfl (hb hby at_362) ?_
        refine k_iadd X207 hx (q := 364) rfl (hb hby at_363) ?_
        refine k_bipush X207 hx (v := (32 : Int32)) rfl (q := 366) rfl (hb hby at_364) ?_
        refine k_iload X207 hx (q := 368) rfl (hb hby at_366) rfl ?_
        refine k_isub X207 hx (q := 369) rfl (hb hby at_368) ?_
        refine k_iconst X207 hx (v := (2 : Int32)) rfl (q := 370) rfl (hb hby at_369) ?_
        refine k_isub X207 hx (q := 371) rfl (hb hby at_370) ?_
        refine k_i2b X207 hx (q := 372) rfl (hb hby at_371) ?_
        refine k_asB X207 hx hZ e207 ((n + (1 + k)) + 1) (q := 373) rfl (hb hby at_372) V207 hp1 (by omega) ?_
        intro T208 h208 X208 e208 W208 V208
        have K208 := Keep.of_wr W208
        have N208 := Fr.snoc X208 N207 ge_ar
        obtain ⟨g, hg⟩ : ∃ g : Nat → Int32, g = fun t => (if t = ((n + (1 + k)) + 1) then nar .byte ((((32 : Int32) - pp) - (2 : Int32)).toInt8.toInt32) else (if t = (n + (1 + k)) then nar .byte (10 : Int32) else (if t = n then nar .byte (kk.toInt8.toInt32) else (if t < 10 then nar .byte (f2 ky t.toInt32 len) else 0)))) := ⟨_, rfl⟩
        have Vg : Ary Z h208 ar .byte 32 (fun t => .int (g t)) := V208.congr fun t ht => by
          rw [hg]
          show _ = Value.int (if t = ((n + (1 + k)) + 1) then nar .byte ((((32 : Int32) - pp) - (2 : Int32)).toInt8.toInt32) else (if t = (n + (1 + k)) then nar .byte (10 : Int32) else (if t = n then nar .byte (kk.toInt8.toInt32) else (if t < 10 then nar .byte (f2 ky t.toInt32 len) else 0))))
          repeat' split
          all_goals rfl
        have g_lo : ∀ t, t < n → g t = nar .byte (f2 ky t.toInt32 len) := fun t ht => by
          rw [hg]; simp only [if_neg (show ¬ t = n by omega), if_neg (show ¬ t = (n + (1 + k)) by omega), if_neg (show ¬ t = ((n + (1 + k)) + 1) by omega), if_pos (show t < 10 by omega)]
        have g_p : g (n + (1 + k)) = nar .byte ((10 : Int32)) := by
          rw [hg]; simp only [if_neg (show ¬ (n + (1 + k)) = ((n + (1 + k)) + 1) by omega), if_true]
        have g_p1 : g ((n + (1 + k)) + 1) = nar .byte ((((32 : Int32) - pp) - (2 : Int32)).toInt8.toInt32) := by
          rw [hg]; simp only [if_true]
        have g_v0 : g n = nar .byte (kk.toInt8.toInt32) := by
          rw [hg]; simp only [if_neg (show ¬ n = (n + (1 + k)) by omega), if_neg (show ¬ n = ((n + (1 + k)) + 1) by omega), if_true]
        have hk0' : 0 ≤ ky.toInt := by omega
        have hraw : own_raw g 0 n = ky := own_whole g ky hk0' hm5 hmk hmn' hn10 fun t ht => by
          rw [g_lo t ht, own_enc ky hk0' hlen hn10 ht]
          have d0 := Int.emod_nonneg (ky.toInt / 128 ^ t) (show (128 : Int) ≠ 0 by decide)
          have d1 := Int.emod_lt_of_pos (ky.toInt / 128 ^ t) (show (0 : Int) < 128 by decide)
          split <;> omega
        have hneg : ∀ t, t < n - 1 → g (0 + t) < 0 := fun t ht => by
          have e := own_enc ky hk0' hlen hn10 (t := t) (by omega)
          rw [← g_lo t (by omega), if_neg (by omega)] at e
          have d1 := Int.emod_lt_of_pos (ky.toInt / 128 ^ t) (show (0 : Int) < 128 by decide)
          rw [Nat.zero_add, Int32.lt_iff_toInt_lt, e]
          have : (0 : Int32).toInt = 0 := by decide
          omega
        have hnon : ¬ g (0 + (n - 1)) < 0 := by
          have e := own_enc ky hk0' hlen hn10 (t := n - 1) (by omega)
          rw [← g_lo (n - 1) (by omega), if_pos rfl] at e
          have d0 := Int.emod_nonneg (ky.toInt / 128 ^ (n - 1)) (show (128 : Int) ≠ 0 by decide)
          rw [Nat.zero_add, Int32.lt_iff_toInt_lt, e]
          have : (0 : Int32).toInt = 0 := by decide
          omega
        obtain ⟨hf1, hf2, hf3, hf4⟩ := own_fields (w := (2 : Int32)) hky hnu1 hnu2 (by decide) (by decide)
        have g_p' : (g (n + (1 + k))).toInt = 10 := by rw [g_p]; decide
        have g_p1' : (g ((n + (1 + k)) + 1)).toInt = 30 - ((n + (1 + k)) : Nat) := by
          rw [g_p1]
          have i := hp.int
          have s1 := c_isub 32 pp
          have s2 := c_isub ((32 : Int32) - pp) 2
          have e32 : (32 : Int32).toInt = 32 := by decide
          have e2 : (2 : Int32).toInt = 2 := by decide
          have r1 := rng32 ((32 : Int32) - pp)
          have r2 := rng32 ((32 : Int32) - pp - 2)
          have b1 := c_i2b ((32 : Int32) - pp - 2)
          have b2 := own_nb ((32 : Int32) - pp - 2).toInt8.toInt32
          omega
        refine k_new X208 hx hZ hown (hw _ (List.mem_of_getElem? (i := 12) rfl)) (hw _ (List.mem_of_getElem? (i := 13) rfl)) (hw _ (List.mem_of_getElem? (i := 14) rfl)) e208 (q := 376) rfl (hb hby at_373) (by decide) (by decide) ?_
        intro T209 h209 pe X209 e209 g209 E209 A209 D209
        have K209 := Keep.of_ext E209
        have F210 : Fld Z h209 pe "com/example/footwise/footwise/osm/Protobuf" "bytes" "[B" .null := D209 (Or.inr (hw _ (List.mem_of_getElem? (i := 25) rfl))) (ty := (.array .byte)) (by decide)
        have F211 : Fld Z h209 pe "com/example/footwise/footwise/osm/Protobuf" "position" "I" (.int (0 : Int32)) := D209 (Or.inl (hw _ (List.mem_of_getElem? (i := 27) rfl))) (ty := .int) (by decide)
        have F212 : Fld Z h209 pe "com/example/footwise/footwise/osm/Protobuf" "end" "I" (.int (0 : Int32)) := D209 (Or.inr (hw _ (List.mem_of_getElem? (i := 29) rfl))) (ty := .int) (by decide)
        have F213 : Fld Z h209 pe "com/example/footwise/footwise/osm/Protobuf" "field" "I" (.int (0 : Int32)) := D209 (Or.inl (hw _ (List.mem_of_getElem? (i := 41) rfl))) (ty := .int) (by decide)
        have F214 : Fld Z h209 pe "com/example/footwise/footwise/osm/Protobuf" "wireType" "I" (.int (0 : Int32)) := D209 (Or.inl (hw _ (List.mem_of_getElem? (i := 44) rfl))) (ty := .int) (by decide)
        refine k_dup X209 hx (q := 377) rfl (hb hby at_376) rfl ?_
        refine k_iconst X209 hx (v := (0 : Int32)) rfl (q := 378) rfl (hb hby at_377) ?_
        refine k_newP X209 hx hZ (hw _ (List.mem_of_getElem? (i := 7) rfl)) e209 (q := 380) rfl (hb hby at_378) (by decide) (cap := 0) (by decide) (by decide) (by decide) (by decide) ?_
        intro T215 h215 ea k215 X215 e215 g215 E215 A215
        have K215 := Keep.of_ext E215
        have V215 : Ary Z h215 ea .byte 0 (fun _ => .int (0 : Int32)) := Ary.new A215 (by decide) rfl
        have Sz229 : n0 ≤ h182.size := Nat.le_trans Z0 K182.1
        have Sz228 : n0 ≤ h184.size := Nat.le_trans Sz229 K184.1
        have Sz227 : n0 ≤ h186.size := Nat.le_trans Sz228 K186.1
        have Sz226 : n0 ≤ h188.size := Nat.le_trans Sz227 K188.1
        have Sz225 : n0 ≤ h190.size := Nat.le_trans Sz226 K190.1
        have Sz224 : n0 ≤ h192.size := Nat.le_trans Sz225 K192.1
        have Sz223 : n0 ≤ h194.size := Nat.le_trans Sz224 K194.1
        have Sz222 : n0 ≤ h196.size := Nat.le_trans Sz223 K196.1
        have Sz221 : n0 ≤ h198.size := Nat.le_trans Sz222 K198.1
        have Sz220 : n0 ≤ h200.size := Nat.le_trans Sz221 K200.1
        have Sz219 : n0 ≤ h202.size := Nat.le_trans Sz220 K202.1
        have Sz218 : n0 ≤ h206.size := Nat.le_trans Sz219 K206.1
        have Sz217 : n0 ≤ h207.size := Nat.le_trans Sz218 K207.1
        have Sz216 : n0 ≤ h208.size := Nat.le_trans Sz217 K208.1
        have ge_pe : n0 ≤ pe := Nat.le_trans Sz216 (Nat.le_of_eq g209.symm)
        have G230 := (A209.keep K215)
        have G231 := (F210.keep K215 nin0)
        have G232 := (F211.keep K215 nin0)
        have G233 := (F212.keep K215 nin0)
        have G234 := (F213.keep K215 nin0)
        have G235 := (F214.keep K215 nin0)
        refine k_callI X215 hx hZ (y := (⟨"com/example/footwise/footwise/osm/Protobuf", "<init>", "([B)V"⟩ : MethodName)) hown rfl (hw _ (List.mem_of_getElem? (i := 15) rfl)) (hw _ (List.mem_of_getElem? (i := 16) rfl)) (hw _ (List.mem_of_getElem? (i := 14) rfl)) (hw _ (List.mem_of_getElem? (i := 17) rfl)) (by decide) 1 e215 (rm3 l Z a0 hw pe ea h215 n0 ge_pe G230 G231 G232 G233 G234 G235 0 _ V215) (by decide) (by decide) (by decide) (by decide) (by rw [hml]; rfl) (a := pe) (as := [(.ref ea)]) (rest := [(.ref pe)]) pd_7 rfl (by first | exact Nat.le_refl _ | simp [Value.category]) (q := 383) rfl (hb hby at_380) ?_
        rintro _ T236 L236 X236 ⟨rfl, N236q, K236, P236⟩
        have N236 := Fr.app N208 N236q
        show End _ _ _ _ _ _ _ (T236.setTop (mkF m 383 #[.val (.int x0), .val (.int x1), .val (.int x2), .val (.int x3), .val (.int nu), .val (.int sel), .val (.int (2 : Int32)), .val (.long ky), .second, .val (.int mn), .val (.int len), .val (.ref ar), .val (.int ((1 : Int32) + kk)), .val (.int pp), .unset, .unset, .unset, .unset, .unset, .unset, .unset, .unset, .unset] [(.ref pe)]))
        refine k_astore X236 hx (L' := #[.val (.int x0), .val (.int x1), .val (.int x2), .val (.int x3), .val (.int nu), .val (.int sel), .val (.int (2 : Int32)), .val (.long ky), .second, .val (.int mn), .val (.int len), .val (.ref ar), .val (.int ((1 : Int32) + kk)), .val (.int pp), .val (.ref pe), .unset, .unset, .unset, .unset, .unset, .unset, .unset, .unset]) (q := 385) rfl (hb hby at_383) rfl rfl ?_
        refine k_aload X236 hx (q := 387) rfl (hb hby at_385) rfl rfl ?_
        have ne_pe_ea : pe ≠ ea := Nat.ne_of_lt (Nat.lt_of_lt_of_le (A209).lt (Nat.le_of_eq g215.symm))
        refine k_callV X236 hx hZ (y := (⟨"com/example/footwise/footwise/osm/Protobuf", "next", "()Z"⟩ : MethodName)) (z := (⟨"com/example/footwise/footwise/osm/Protobuf", "next", "()Z"⟩ : MethodName)) hown (hw _ (List.mem_of_getElem? (i := 30) rfl)) (hw _ (List.mem_of_getElem? (i := 31) rfl)) (notFace_of_selects (args := #[]) (mvT hZ (hw _ (List.mem_of_getElem? (i := 33) rfl)))) (hw _ (List.mem_of_getElem? (i := 33) rfl)) (hw _ (List.mem_of_getElem? (i := 32) rfl)) (hw _ (List.mem_of_getElem? (i := 34) rfl)) (hw _ (List.mem_of_getElem? (i := 14) rfl)) (by decide) P236.1 0 rfl (rm6e l Z a0 hw pe T236.heap n0 ge_pe ea 0 _ 0 0 P236 (Ne.symm ne_pe_ea) 0 0 ⟨by decide, by decide⟩ (own_nat (by decide)) (by decide) (by decide)) (by decide) (by decide) (by decide) (by decide) (by rw [hml]; rfl) (a := pe) (as := []) (rest := []) pd_8 rfl (by first | exact Nat.le_refl _ | simp [Value.category]) (q := 390) rfl (hb hby at_387) ?_
        rintro _ T237 L237 X237 ⟨rfl, N237q, e237⟩
        have N237 := Fr.app N236 N237q
        show End _ _ _ _ _ _ _ (T237.setTop (mkF m 390 #[.val (.int x0), .val (.int x1), .val (.int x2), .val (.int x3), .val (.int nu), .val (.int sel), .val (.int (2 : Int32)), .val (.long ky), .second, .val (.int mn), .val (.int len), .val (.ref ar), .val (.int ((1 : Int32) + kk)), .val (.int pp), .val (.ref pe), .unset, .unset, .unset, .unset, .unset, .unset, .unset, .unset] [(.int (0 : Int32))]))
        refine k_istore X237 hx (L' := #[.val (.int x0), .val (.int x1), .val (.int x2), .val (.int x3), .val (.int nu), .val (.int sel), .val (.int (2 : Int32)), .val (.long ky), .second, .val (.int mn), .val (.int len), .val (.ref ar), .val (.int ((1 : Int32) + kk)), .val (.int pp), .val (.ref pe), .val (.int (0 : Int32)), .unset, .unset, .unset, .unset, .unset, .unset, .unset]) (q := 392) rfl (hb hby at_390) rfl ?_
        refine k_new X237 hx hZ hown (hw _ (List.mem_of_getElem? (i := 12) rfl)) (hw _ (List.mem_of_getElem? (i := 13) rfl)) (hw _ (List.mem_of_getElem? (i := 14) rfl)) e237 (q := 395) rfl (hb hby at_392) (by decide) (by decide) ?_
        intro T238 h238 pb X238 e238 g238 E238 A238 D238
        have K238 := Keep.of_ext E238
        have F239 : Fld Z h238 pb "com/example/footwise/footwise/osm/Protobuf" "bytes" "[B" .null := D238 (Or.inr (hw _ (List.mem_of_getElem? (i := 25) rfl))) (ty := (.array .byte)) (by decide)
        have F240 : Fld Z h238 pb "com/example/footwise/footwise/osm/Protobuf" "position" "I" (.int (0 : Int32)) := D238 (Or.inl (hw _ (List.mem_of_getElem? (i := 27) rfl))) (ty := .int) (by decide)
        have F241 : Fld Z h238 pb "com/example/footwise/footwise/osm/Protobuf" "end" "I" (.int (0 : Int32)) := D238 (Or.inr (hw _ (List.mem_of_getElem? (i := 29) rfl))) (ty := .int) (by decide)
        have F242 : Fld Z h238 pb "com/example/footwise/footwise/osm/Protobuf" "field" "I" (.int (0 : Int32)) := D238 (Or.inl (hw _ (List.mem_of_getElem? (i := 41) rfl))) (ty := .int) (by decide)
        have F243 : Fld Z h238 pb "com/example/footwise/footwise/osm/Protobuf" "wireType" "I" (.int (0 : Int32)) := D238 (Or.inl (hw _ (List.mem_of_getElem? (i := 44) rfl))) (ty := .int) (by decide)
        refine k_dup X238 hx (q := 396) rfl (hb hby at_395) rfl ?_
        refine k_aload X238 hx (q := 398) rfl (hb hby at_396) rfl rfl ?_
        have Sz246 : n0 ≤ h209.size := Nat.le_trans Sz216 K209.1
        have Sz245 : n0 ≤ h215.size := Nat.le_trans Sz246 K215.1
        have Sz244 : n0 ≤ T236.heap.size := Nat.le_trans Sz245 K236.1
        have ge_pb : n0 ≤ pb := Nat.le_trans Sz244 (Nat.le_of_eq g238.symm)
        have ne_ar_pe : ar ≠ pe := Nat.ne_of_lt (Nat.lt_of_lt_of_le (Vg).lt (Nat.le_of_eq g209.symm))
        have G247 := ((((Vg.keep K209 nin0).keep K215 nin0).keep K236 (ninS ne_ar_pe nin0)).keep K238 nin0)
        refine k_callI X238 hx hZ (y := (⟨"com/example/footwise/footwise/osm/Protobuf", "<init>", "([B)V"⟩ : MethodName)) hown rfl (hw _ (List.mem_of_getElem? (i := 15) rfl)) (hw _ (List.mem_of_getElem? (i := 16) rfl)) (hw _ (List.mem_of_getElem? (i := 14) rfl)) (hw _ (List.mem_of_getElem? (i := 17) rfl)) (by decide) 1 e238 (rm3 l Z a0 hw pb ar h238 n0 ge_pb A238 F239 F240 F241 F242 F243 32 _ G247) (by decide) (by decide) (by decide) (by decide) (by rw [hml]; rfl) (a := pb) (as := [(.ref ar)]) (rest := [(.ref pb)]) pd_7 rfl (by first | exact Nat.le_refl _ | simp [Value.category]) (q := 401) rfl (hb hby at_398) ?_
        rintro _ T248 L248 X248 ⟨rfl, N248q, K248, P248⟩
        have N248 := Fr.app N237 N248q
        show End _ _ _ _ _ _ _ (T248.setTop (mkF m 401 #[.val (.int x0), .val (.int x1), .val (.int x2), .val (.int x3), .val (.int nu), .val (.int sel), .val (.int (2 : Int32)), .val (.long ky), .second, .val (.int mn), .val (.int len), .val (.ref ar), .val (.int ((1 : Int32) + kk)), .val (.int pp), .val (.ref pe), .val (.int (0 : Int32)), .unset, .unset, .unset, .unset, .unset, .unset, .unset] [(.ref pb)]))
        have G249 := (((Vg.keep K209 nin0).keep K215 nin0).keep K236 (ninS ne_ar_pe nin0))
        have ne_ar_pb : ar ≠ pb := Nat.ne_of_lt (Nat.lt_of_lt_of_le (G249).lt (Nat.le_of_eq g238.symm))
        refine k_astore X248 hx (L' := #[.val (.int x0), .val (.int x1), .val (.int x2), .val (.int x3), .val (.int nu), .val (.int sel), .val (.int (2 : Int32)), .val (.long ky), .second, .val (.int mn), .val (.int len), .val (.ref ar), .val (.int ((1 : Int32) + kk)), .val (.int pp), .val (.ref pe), .val (.int (0 : Int32)), .val (.ref pb), .unset, .unset, .unset, .unset, .unset, .unset]) (q := 403) rfl (hb hby at_401) rfl rfl ?_
        refine k_aload X248 hx (q := 405) rfl (hb hby at_403) rfl rfl ?_
        have G250 := (G247.keep K248 (ninS ne_ar_pb nin0))
        refine k_callV X248 hx hZ (y := (⟨"com/example/footwise/footwise/osm/Protobuf", "next", "()Z"⟩ : MethodName)) (z := (⟨"com/example/footwise/footwise/osm/Protobuf", "next", "()Z"⟩ : MethodName)) hown (hw _ (List.mem_of_getElem? (i := 30) rfl)) (hw _ (List.mem_of_getElem? (i := 31) rfl)) (notFace_of_selects (args := #[]) (mvT hZ (hw _ (List.mem_of_getElem? (i := 33) rfl)))) (hw _ (List.mem_of_getElem? (i := 33) rfl)) (hw _ (List.mem_of_getElem? (i := 32) rfl)) (hw _ (List.mem_of_getElem? (i := 34) rfl)) (hw _ (List.mem_of_getElem? (i := 14) rfl)) (by decide) P248.1 0 rfl (rm6 l Z a0 hw pb T248.heap n0 ge_pb ar 0 _ 0 0 P248 ne_ar_pb 0 32 ⟨by decide, by decide⟩ (own_nat (by decide)) (by decide) 32 (by decide) g G250 (n - 1) (by omega) hneg hnon (by omega) ky (by rw [show n - 1 + 1 = n by omega]; exact hraw) hf1 hf2) (by decide) (by decide) (by decide) (by decide) (by rw [hml]; rfl) (a := pb) (as := []) (rest := []) pd_8 rfl (by first | exact Nat.le_refl _ | simp [Value.category]) (q := 408) rfl (hb hby at_405) ?_
        rintro _ T251 L251 X251 ⟨rfl, N251q, K251, q1, hq1, P251⟩
        have N251 := Fr.app N248 N251q
        show End _ _ _ _ _ _ _ (T251.setTop (mkF m 408 #[.val (.int x0), .val (.int x1), .val (.int x2), .val (.int x3), .val (.int nu), .val (.int sel), .val (.int (2 : Int32)), .val (.long ky), .second, .val (.int mn), .val (.int len), .val (.ref ar), .val (.int ((1 : Int32) + kk)), .val (.int pp), .val (.ref pe), .val (.int (0 : Int32)), .val (.ref pb), .unset, .unset, .unset, .unset, .unset, .unset] [(.int (1 : Int32))]))
        rw [hf3, hf4] at P251
        rw [show 0 + (n - 1) + 1 = n by omega] at hq1
        refine k_istore X251 hx (L' := #[.val (.int x0), .val (.int x1), .val (.int x2), .val (.int x3), .val (.int nu), .val (.int sel), .val (.int (2 : Int32)), .val (.long ky), .second, .val (.int mn), .val (.int len), .val (.ref ar), .val (.int ((1 : Int32) + kk)), .val (.int pp), .val (.ref pe), .val (.int (0 : Int32)), .val (.ref pb), .val (.int (1 : Int32)), .unset, .unset, .unset, .unset, .unset]) (q := 410) rfl (hb hby at_408) rfl ?_
        refine k_aload X251 hx (q := 412) rfl (hb hby at_410) rfl rfl ?_
        refine k_callV X251 hx hZ (y := (⟨"com/example/footwise/footwise/osm/Protobuf", "field", "()I"⟩ : MethodName)) (z := (⟨"com/example/footwise/footwise/osm/Protobuf", "field", "()I"⟩ : MethodName)) hown (hw _ (List.mem_of_getElem? (i := 45) rfl)) (hw _ (List.mem_of_getElem? (i := 46) rfl)) (notFace_of_selects (args := #[]) (mvT hZ (hw _ (List.mem_of_getElem? (i := 48) rfl)))) (hw _ (List.mem_of_getElem? (i := 48) rfl)) (hw _ (List.mem_of_getElem? (i := 47) rfl)) (hw _ (List.mem_of_getElem? (i := 49) rfl)) (hw _ (List.mem_of_getElem? (i := 14) rfl)) (by decide) P251.1 0 rfl (rm8 l Z a0 hw pb T251.heap n0 nu P251.2.2.2.2.1) (by decide) (by decide) (by decide) (by decide) (by rw [hml]; rfl) (a := pb) (as := []) (rest := []) pd_3 rfl (by first | exact Nat.le_refl _ | simp [Value.category]) (q := 415) rfl (hb hby at_412) ?_
        rintro _ T252 L252 X252 ⟨rfl, N252q, e252⟩
        have N252 := Fr.app N251 N252q
        show End _ _ _ _ _ _ _ (T252.setTop (mkF m 415 #[.val (.int x0), .val (.int x1), .val (.int x2), .val (.int x3), .val (.int nu), .val (.int sel), .val (.int (2 : Int32)), .val (.long ky), .second, .val (.int mn), .val (.int len), .val (.ref ar), .val (.int ((1 : Int32) + kk)), .val (.int pp), .val (.ref pe), .val (.int (0 : Int32)), .val (.ref pb), .val (.int (1 : Int32)), .unset, .unset, .unset, .unset, .unset] [(.int nu)]))
        refine k_istore X252 hx (L' := #[.val (.int x0), .val (.int x1), .val (.int x2), .val (.int x3), .val (.int nu), .val (.int sel), .val (.int (2 : Int32)), .val (.long ky), .second, .val (.int mn), .val (.int len), .val (.ref ar), .val (.int ((1 : Int32) + kk)), .val (.int pp), .val (.ref pe), .val (.int (0 : Int32)), .val (.ref pb), .val (.int (1 : Int32)), .val (.int nu), .unset, .unset, .unset, .unset]) (q := 417) rfl (hb hby at_415) rfl ?_
        refine k_aload X252 hx (q := 419) rfl (hb hby at_417) rfl rfl ?_
        have G253 := (G250.keep K251 (ninS ne_ar_pb nin0))
        have g_v0' : (g n).toInt = (k : Int) := by
          rw [g_v0]
          have i := hkx.int
          have b1 := c_i2b kk
          have b2 := own_nb kk.toInt8.toInt32
          omega
        refine k_callV X252 hx hZ (y := (⟨"com/example/footwise/footwise/osm/Protobuf", "skip", "()V"⟩ : MethodName)) (z := (⟨"com/example/footwise/footwise/osm/Protobuf", "skip", "()V"⟩ : MethodName)) hown (hw _ (List.mem_of_getElem? (i := 50) rfl)) (hw _ (List.mem_of_getElem? (i := 51) rfl)) (notFace_of_selects (args := #[]) (mvT hZ (hw _ (List.mem_of_getElem? (i := 53) rfl)))) (hw _ (List.mem_of_getElem? (i := 53) rfl)) (hw _ (List.mem_of_getElem? (i := 52) rfl)) (hw _ (List.mem_of_getElem? (i := 54) rfl)) (hw _ (List.mem_of_getElem? (i := 14) rfl)) (by decide) P251.1 0 e252 (rm9l l Z a0 hw pb T251.heap n0 ge_pb ar q1 _ nu P251 ne_ar_pb n 32 hq1 (own_nat (by decide)) (by decide) 32 (by decide) g G253 0 (by decide) (fun t ht => by omega) (by rw [Nat.add_zero, Int32.lt_iff_toInt_lt, g_v0']; have := own_z0; omega) (by omega) k (by rw [own_raw1, g_v0']; omega) (by omega)) (by decide) (by decide) (by decide) (by decide) (by rw [hml]; rfl) (a := pb) (as := []) (rest := []) pd_9 rfl (by first | exact Nat.le_refl _ | simp [Value.category]) (q := 422) rfl (hb hby at_419) ?_
        rintro _ T254 L254 X254 ⟨rfl, N254q, K254, q2, hq2, P254⟩
        have N254 := Fr.app N252 N254q
        show End _ _ _ _ _ _ _ (T254.setTop (mkF m 422 #[.val (.int x0), .val (.int x1), .val (.int x2), .val (.int x3), .val (.int nu), .val (.int sel), .val (.int (2 : Int32)), .val (.long ky), .second, .val (.int mn), .val (.int len), .val (.ref ar), .val (.int ((1 : Int32) + kk)), .val (.int pp), .val (.ref pe), .val (.int (0 : Int32)), .val (.ref pb), .val (.int (1 : Int32)), .val (.int nu), .unset, .unset, .unset, .unset] []))
        have hq2' : Ix q2 (n + (1 + k)) := by
          have e : n + 0 + 1 + k = (n + (1 + k)) := by omega
          rw [← e]; exact hq2
        refine k_aload X254 hx (q := 424) rfl (hb hby at_422) rfl rfl ?_
        have G255 := (G253.keep K254 (ninS ne_ar_pb nin0))
        have hr10 : (own_raw g (n + (1 + k)) (0 + 1)).toInt = 10 := by rw [own_raw1, g_p']; decide
        obtain ⟨e1, e2, e3, e4⟩ := own_fields (k := own_raw g (n + (1 + k)) (0 + 1)) (nu := 1) (w := 2) (by rw [hr10]; decide) (by decide) (by decide) (by decide) (by decide)
        refine k_callV X254 hx hZ (y := (⟨"com/example/footwise/footwise/osm/Protobuf", "next", "()Z"⟩ : MethodName)) (z := (⟨"com/example/footwise/footwise/osm/Protobuf", "next", "()Z"⟩ : MethodName)) hown (hw _ (List.mem_of_getElem? (i := 30) rfl)) (hw _ (List.mem_of_getElem? (i := 31) rfl)) (notFace_of_selects (args := #[]) (mvT hZ (hw _ (List.mem_of_getElem? (i := 33) rfl)))) (hw _ (List.mem_of_getElem? (i := 33) rfl)) (hw _ (List.mem_of_getElem? (i := 32) rfl)) (hw _ (List.mem_of_getElem? (i := 34) rfl)) (hw _ (List.mem_of_getElem? (i := 14) rfl)) (by decide) P254.1 0 rfl (rm6 l Z a0 hw pb T254.heap n0 ge_pb ar q2 _ nu (2 : Int32) P254 ne_ar_pb (n + (1 + k)) 32 hq2' (own_nat (by decide)) (by decide) 32 (by decide) g G255 0 (by decide) (fun t ht => by omega) (by rw [Nat.add_zero, Int32.lt_iff_toInt_lt, g_p']; decide) (by omega) _ rfl e1 e2) (by decide) (by decide) (by decide) (by decide) (by rw [hml]; rfl) (a := pb) (as := []) (rest := []) pd_8 rfl (by first | exact Nat.le_refl _ | simp [Value.category]) (q := 427) rfl (hb hby at_424) ?_
        rintro _ T256 L256 X256 ⟨rfl, N256q, K256, q3, hq3, P256⟩
        have N256 := Fr.app N254 N256q
        show End _ _ _ _ _ _ _ (T256.setTop (mkF m 427 #[.val (.int x0), .val (.int x1), .val (.int x2), .val (.int x3), .val (.int nu), .val (.int sel), .val (.int (2 : Int32)), .val (.long ky), .second, .val (.int mn), .val (.int len), .val (.ref ar), .val (.int ((1 : Int32) + kk)), .val (.int pp), .val (.ref pe), .val (.int (0 : Int32)), .val (.ref pb), .val (.int (1 : Int32)), .val (.int nu), .unset, .unset, .unset, .unset] [(.int (1 : Int32))]))
        rw [e3, e4] at P256
        refine k_istore X256 hx (L' := #[.val (.int x0), .val (.int x1), .val (.int x2), .val (.int x3), .val (.int nu), .val (.int sel), .val (.int (2 : Int32)), .val (.long ky), .second, .val (.int mn), .val (.int len), .val (.ref ar), .val (.int ((1 : Int32) + kk)), .val (.int pp), .val (.ref pe), .val (.int (0 : Int32)), .val (.ref pb), .val (.int (1 : Int32)), .val (.int nu), .val (.int (1 : Int32)), .unset, .unset, .unset]) (q := 429) rfl (hb hby at_427) rfl ?_
        refine k_aload X256 hx (q := 431) rfl (hb hby at_429) rfl rfl ?_
        refine k_callV X256 hx hZ (y := (⟨"com/example/footwise/footwise/osm/Protobuf", "field", "()I"⟩ : MethodName)) (z := (⟨"com/example/footwise/footwise/osm/Protobuf", "field", "()I"⟩ : MethodName)) hown (hw _ (List.mem_of_getElem? (i := 45) rfl)) (hw _ (List.mem_of_getElem? (i := 46) rfl)) (notFace_of_selects (args := #[]) (mvT hZ (hw _ (List.mem_of_getElem? (i := 48) rfl)))) (hw _ (List.mem_of_getElem? (i := 48) rfl)) (hw _ (List.mem_of_getElem? (i := 47) rfl)) (hw _ (List.mem_of_getElem? (i := 49) rfl)) (hw _ (List.mem_of_getElem? (i := 14) rfl)) (by decide) P256.1 0 rfl (rm8 l Z a0 hw pb T256.heap n0 1 P256.2.2.2.2.1) (by decide) (by decide) (by decide) (by decide) (by rw [hml]; rfl) (a := pb) (as := []) (rest := []) pd_3 rfl (by first | exact Nat.le_refl _ | simp [Value.category]) (q := 434) rfl (hb hby at_431) ?_
        rintro _ T257 L257 X257 ⟨rfl, N257q, e257⟩
        have N257 := Fr.app N256 N257q
        show End _ _ _ _ _ _ _ (T257.setTop (mkF m 434 #[.val (.int x0), .val (.int x1), .val (.int x2), .val (.int x3), .val (.int nu), .val (.int sel), .val (.int (2 : Int32)), .val (.long ky), .second, .val (.int mn), .val (.int len), .val (.ref ar), .val (.int ((1 : Int32) + kk)), .val (.int pp), .val (.ref pe), .val (.int (0 : Int32)), .val (.ref pb), .val (.int (1 : Int32)), .val (.int nu), .val (.int (1 : Int32)), .unset, .unset, .unset] [(.int (1 : Int32))]))
        refine k_istore X257 hx (L' := #[.val (.int x0), .val (.int x1), .val (.int x2), .val (.int x3), .val (.int nu), .val (.int sel), .val (.int (2 : Int32)), .val (.long ky), .second, .val (.int mn), .val (.int len), .val (.ref ar), .val (.int ((1 : Int32) + kk)), .val (.int pp), .val (.ref pe), .val (.int (0 : Int32)), .val (.ref pb), .val (.int (1 : Int32)), .val (.int nu), .val (.int (1 : Int32)), .val (.int (1 : Int32)), .unset, .unset]) (q := 436) rfl (hb hby at_434) rfl ?_
        refine k_aload X257 hx (q := 438) rfl (hb hby at_436) rfl rfl ?_
        have G258 := (G255.keep K256 (ninS ne_ar_pb nin0))
        have hrl : (own_raw g ((n + (1 + k)) + 0 + 1) (0 + 1)).toInt = ((30 - (n + (1 + k)) : Nat) : Int) := by
          rw [own_raw1, show ((n + (1 + k)) + 0 + 1) = (n + (1 + k)) + 1 by omega, g_p1']; omega
        refine k_callV X257 hx hZ (y := (⟨"com/example/footwise/footwise/osm/Protobuf", "skip", "()V"⟩ : MethodName)) (z := (⟨"com/example/footwise/footwise/osm/Protobuf", "skip", "()V"⟩ : MethodName)) hown (hw _ (List.mem_of_getElem? (i := 50) rfl)) (hw _ (List.mem_of_getElem? (i := 51) rfl)) (notFace_of_selects (args := #[]) (mvT hZ (hw _ (List.mem_of_getElem? (i := 53) rfl)))) (hw _ (List.mem_of_getElem? (i := 53) rfl)) (hw _ (List.mem_of_getElem? (i := 52) rfl)) (hw _ (List.mem_of_getElem? (i := 54) rfl)) (hw _ (List.mem_of_getElem? (i := 14) rfl)) (by decide) P256.1 0 e257 (rm9l l Z a0 hw pb T256.heap n0 ge_pb ar q3 _ 1 P256 ne_ar_pb ((n + (1 + k)) + 0 + 1) 32 hq3 (own_nat (by decide)) (by decide) 32 (by decide) g G258 0 (by decide) (fun t ht => by omega) (by rw [Nat.add_zero, show ((n + (1 + k)) + 0 + 1) = (n + (1 + k)) + 1 by omega, Int32.lt_iff_toInt_lt, g_p1']; have := own_z0; omega) (by omega) (30 - (n + (1 + k))) hrl (by omega)) (by decide) (by decide) (by decide) (by decide) (by rw [hml]; rfl) (a := pb) (as := []) (rest := []) pd_9 rfl (by first | exact Nat.le_refl _ | simp [Value.category]) (q := 441) rfl (hb hby at_438) ?_
        rintro _ T259 L259 X259 ⟨rfl, N259q, K259, q4, hq4, P259⟩
        have N259 := Fr.app N257 N259q
        show End _ _ _ _ _ _ _ (T259.setTop (mkF m 441 #[.val (.int x0), .val (.int x1), .val (.int x2), .val (.int x3), .val (.int nu), .val (.int sel), .val (.int (2 : Int32)), .val (.long ky), .second, .val (.int mn), .val (.int len), .val (.ref ar), .val (.int ((1 : Int32) + kk)), .val (.int pp), .val (.ref pe), .val (.int (0 : Int32)), .val (.ref pb), .val (.int (1 : Int32)), .val (.int nu), .val (.int (1 : Int32)), .val (.int (1 : Int32)), .unset, .unset] []))
        refine k_aload X259 hx (q := 443) rfl (hb hby at_441) rfl rfl ?_
        refine k_callV X259 hx hZ (y := (⟨"com/example/footwise/footwise/osm/Protobuf", "next", "()Z"⟩ : MethodName)) (z := (⟨"com/example/footwise/footwise/osm/Protobuf", "next", "()Z"⟩ : MethodName)) hown (hw _ (List.mem_of_getElem? (i := 30) rfl)) (hw _ (List.mem_of_getElem? (i := 31) rfl)) (notFace_of_selects (args := #[]) (mvT hZ (hw _ (List.mem_of_getElem? (i := 33) rfl)))) (hw _ (List.mem_of_getElem? (i := 33) rfl)) (hw _ (List.mem_of_getElem? (i := 32) rfl)) (hw _ (List.mem_of_getElem? (i := 34) rfl)) (hw _ (List.mem_of_getElem? (i := 14) rfl)) (by decide) P259.1 0 rfl (rm6e l Z a0 hw pb T259.heap n0 ge_pb ar q4 _ 1 2 P259 ne_ar_pb _ 32 hq4 (own_nat (by decide)) (by decide) (by omega)) (by decide) (by decide) (by decide) (by decide) (by rw [hml]; rfl) (a := pb) (as := []) (rest := []) pd_8 rfl (by first | exact Nat.le_refl _ | simp [Value.category]) (q := 446) rfl (hb hby at_443) ?_
        rintro _ T260 L260 X260 ⟨rfl, N260q, e260⟩
        have N260 := Fr.app N259 N260q
        show End _ _ _ _ _ _ _ (T260.setTop (mkF m 446 #[.val (.int x0), .val (.int x1), .val (.int x2), .val (.int x3), .val (.int nu), .val (.int sel), .val (.int (2 : Int32)), .val (.long ky), .second, .val (.int mn), .val (.int len), .val (.ref ar), .val (.int ((1 : Int32) + kk)), .val (.int pp), .val (.ref pe), .val (.int (0 : Int32)), .val (.ref pb), .val (.int (1 : Int32)), .val (.int nu), .val (.int (1 : Int32)), .val (.int (1 : Int32)), .unset, .unset] [(.int (0 : Int32))]))
        refine k_istore X260 hx (L' := #[.val (.int x0), .val (.int x1), .val (.int x2), .val (.int x3), .val (.int nu), .val (.int sel), .val (.int (2 : Int32)), .val (.long ky), .second, .val (.int mn), .val (.int len), .val (.ref ar), .val (.int ((1 : Int32) + kk)), .val (.int pp), .val (.ref pe), .val (.int (0 : Int32)), .val (.ref pb), .val (.int (1 : Int32)), .val (.int nu), .val (.int (1 : Int32)), .val (.int (1 : Int32)), .val (.int (0 : Int32)), .unset]) (q := 448) rfl (hb hby at_446) rfl ?_
        refine k_aload X260 hx (q := 450) rfl (hb hby at_448) rfl rfl ?_
        refine k_callV X260 hx hZ (y := (⟨"com/example/footwise/footwise/osm/Protobuf", "field", "()I"⟩ : MethodName)) (z := (⟨"com/example/footwise/footwise/osm/Protobuf", "field", "()I"⟩ : MethodName)) hown (hw _ (List.mem_of_getElem? (i := 45) rfl)) (hw _ (List.mem_of_getElem? (i := 46) rfl)) (notFace_of_selects (args := #[]) (mvT hZ (hw _ (List.mem_of_getElem? (i := 48) rfl)))) (hw _ (List.mem_of_getElem? (i := 48) rfl)) (hw _ (List.mem_of_getElem? (i := 47) rfl)) (hw _ (List.mem_of_getElem? (i := 49) rfl)) (hw _ (List.mem_of_getElem? (i := 14) rfl)) (by decide) P259.1 0 e260 (rm8 l Z a0 hw pb T259.heap n0 1 P259.2.2.2.2.1) (by decide) (by decide) (by decide) (by decide) (by rw [hml]; rfl) (a := pb) (as := []) (rest := []) pd_3 rfl (by first | exact Nat.le_refl _ | simp [Value.category]) (q := 453) rfl (hb hby at_450) ?_
        rintro _ T261 L261 X261 ⟨rfl, N261q, e261⟩
        have N261 := Fr.app N260 N261q
        show End _ _ _ _ _ _ _ (T261.setTop (mkF m 453 #[.val (.int x0), .val (.int x1), .val (.int x2), .val (.int x3), .val (.int nu), .val (.int sel), .val (.int (2 : Int32)), .val (.long ky), .second, .val (.int mn), .val (.int len), .val (.ref ar), .val (.int ((1 : Int32) + kk)), .val (.int pp), .val (.ref pe), .val (.int (0 : Int32)), .val (.ref pb), .val (.int (1 : Int32)), .val (.int nu), .val (.int (1 : Int32)), .val (.int (1 : Int32)), .val (.int (0 : Int32)), .unset] [(.int (1 : Int32))]))
        refine k_istore X261 hx (L' := #[.val (.int x0), .val (.int x1), .val (.int x2), .val (.int x3), .val (.int nu), .val (.int sel), .val (.int (2 : Int32)), .val (.long ky), .second, .val (.int mn), .val (.int len), .val (.ref ar), .val (.int ((1 : Int32) + kk)), .val (.int pp), .val (.ref pe), .val (.int (0 : Int32)), .val (.ref pb), .val (.int (1 : Int32)), .val (.int nu), .val (.int (1 : Int32)), .val (.int (1 : Int32)), .val (.int (0 : Int32)), .val (.int (1 : Int32))]) (q := 455) rfl (hb hby at_453) rfl ?_
        refine k_iload X261 hx (q := 457) rfl (hb hby at_455) rfl ?_
        refine k_if_ne X261 hx (q1 := 498) (q := 460) (by decide) (by decide) rfl (hb hby at_457) (fun hc => absurd rfl hc) (fun _ => ?_)
        refine k_iload X261 hx (q := 462) rfl (hb hby at_460) rfl ?_
        refine k_if_eq X261 hx (q1 := 498) (q := 465) (by decide) (by decide) rfl (hb hby at_462) (fun hc => absurd hc (by decide)) (fun _ => ?_)
        refine k_iload X261 hx (q := 467) rfl (hb hby at_465) rfl ?_
        refine k_iload X261 hx (q := 469) rfl (hb hby at_467) rfl ?_
        refine k_icmp_ne X261 hx (q1 := 498) (q := 472) (by decide) (by decide) rfl (hb hby at_469) (fun hc => absurd rfl hc) (fun _ => ?_)
        refine k_iload X261 hx (q := 474) rfl (hb hby at_472) rfl ?_
        refine k_if_eq X261 hx (q1 := 498) (q := 477) (by decide) (by decide) rfl (hb hby at_474) (fun hc => absurd hc (by decide)) (fun _ => ?_)
        refine k_iload X261 hx (q := 479) rfl (hb hby at_477) rfl ?_
        refine k_iconst X261 hx (v := (1 : Int32)) rfl (q := 480) rfl (hb hby at_479) ?_
        refine k_icmp_ne X261 hx (q1 := 498) (q := 483) (by decide) (by decide) rfl (hb hby at_480) (fun hc => absurd rfl hc) (fun _ => ?_)
        refine k_iload X261 hx (q := 485) rfl (hb hby at_483) rfl ?_
        refine k_if_ne X261 hx (q1 := 498) (q := 488) (by decide) (by decide) rfl (hb hby at_485) (fun hc => absurd rfl hc) (fun _ => ?_)
        refine k_iload X261 hx (q := 490) rfl (hb hby at_488) rfl ?_
        refine k_iconst X261 hx (v := (1 : Int32)) rfl (q := 491) rfl (hb hby at_490) ?_
        refine k_icmp_ne X261 hx (q1 := 498) (q := 494) (by decide) (by decide) rfl (hb hby at_491) (fun hc => absurd rfl hc) (fun _ => ?_)
        refine k_iconst X261 hx (v := (1 : Int32)) rfl (q := 495) rfl (hb hby at_494) ?_
        refine k_goto X261 hx (q := 499) (by decide) (by decide) (hb hby at_495) ?_
        exact k_retN X261 hx (t := .boolean) hlk (by decide) (by decide) hret (by simp) (hb hby at_499) ⟨rfl, N261⟩
    · refine k_iconst X0 hx (v := (1 : Int32)) rfl (q := 32) rfl (hb hby at_31) ?_
      refine k_goto X0 hx (q := 46) (by decide) (by decide) (hb hby at_32) ?_
      refine k_istore X0 hx (L' := #[.val (.int x0), .val (.int x1), .val (.int x2), .val (.int x3), .val (.int nu), .val (.int sel), .val (.int (1 : Int32)), .unset, .unset, .unset, .unset, .unset, .unset, .unset, .unset, .unset, .unset, .unset, .unset, .unset, .unset, .unset, .unset]) (q := 48) rfl (hb hby at_46) rfl ?_
      refine k_iload X0 hx (q := 50) rfl (hb hby at_48) rfl ?_
      refine k_i2l X0 hx (q := 51) rfl (hb hby at_50) ?_
      refine k_iconst X0 hx (v := (3 : Int32)) rfl (q := 52) rfl (hb hby at_51) ?_
      refine k_lshl X0 hx (q := 53) rfl (hb hby at_52) ?_
      refine k_iload X0 hx (q := 55) rfl (hb hby at_53) rfl ?_
      refine k_i2l X0 hx (q := 56) rfl (hb hby at_55) ?_
      refine k_lor X0 hx (q := 57) rfl (hb hby at_56) ?_
      refine k_lstore X0 hx (L' := #[.val (.int x0), .val (.int x1), .val (.int x2), .val (.int x3), .val (.int nu), .val (.int sel), .val (.int (1 : Int32)), .val (.long ((nu.toInt64 <<< ((3 : Int32) &&& 0x3f).toInt64) ||| (1 : Int32).toInt64)), .second, .unset, .unset, .unset, .unset, .unset, .unset, .unset, .unset, .unset, .unset, .unset, .unset, .unset, .unset]) (q := 59) rfl (hb hby at_57) rfl ?_
      have hky := own_key hnu1 hnu2 (1 : Int32) 1 (by decide) (by decide) (by decide)
      generalize hk0 : ((nu.toInt64 <<< ((3 : Int32) &&& 0x3f).toInt64) ||| (1 : Int32).toInt64) = ky
      rw [hk0] at hky
      refine k_lload X0 hx (q := 61) rfl (hb hby at_59) rfl ?_
      refine k_callS X0 hx hZ (y := (⟨"com/example/footwise/footwise/osm/ProtobufNextPinLaw", "minLen", "(J)I"⟩ : MethodName)) hown (hw _ (List.mem_of_getElem? (i := 2) rfl)) (hw _ (List.mem_of_getElem? (i := 3) rfl)) (hw _ (List.mem_of_getElem? (i := 4) rfl)) (hw _ (List.mem_of_getElem? (i := 5) rfl)) (by decide) 0 e0 (rm1 l Z a0 hw ky h0 n0) (by decide) (by decide) (by decide) (by decide) (by rw [hml]; rfl) (as := [(.long ky)]) (rest := []) pd_5 rfl (by first | exact Nat.le_refl _ | simp [Value.category]) (q := 64) rfl (hb hby at_61) ?_
      rintro _ T91 L91 X91 ⟨rfl, N91q, e91⟩
      have N91 := Fr.app N0 N91q
      show End _ _ _ _ _ _ _ (T91.setTop (mkF m 64 #[.val (.int x0), .val (.int x1), .val (.int x2), .val (.int x3), .val (.int nu), .val (.int sel), .val (.int (1 : Int32)), .val (.long ky), .second, .unset, .unset, .unset, .unset, .unset, .unset, .unset, .unset, .unset, .unset, .unset, .unset, .unset, .unset] [(.int (f1 ky))]))
      obtain ⟨m', hm1, hm5, hmn, hmk⟩ := own_mn (k := ky) (by omega)
      refine k_istore X91 hx (L' := #[.val (.int x0), .val (.int x1), .val (.int x2), .val (.int x3), .val (.int nu), .val (.int sel), .val (.int (1 : Int32)), .val (.long ky), .second, .val (.int (f1 ky)), .unset, .unset, .unset, .unset, .unset, .unset, .unset, .unset, .unset, .unset, .unset, .unset, .unset]) (q := 66) rfl (hb hby at_64) rfl ?_
      generalize hmn0 : (f1 ky) = mn
      rw [hmn0] at hmn
      obtain ⟨hnz, n, hmn', hn10, hlen⟩ := own_len x3 hmn hm1 hm5
      refine k_iload X91 hx (q := 68) rfl (hb hby at_66) rfl ?_
      refine k_iloadN X91 hx (q := 69) rfl (hb hby at_68) rfl ?_
      refine k_ldcI X91 hx hZ (v := (2147483647 : Int32)) hown (hw _ (List.mem_of_getElem? (i := 0) rfl)) (q := 71) rfl (hb hby at_69) ?_
      refine k_iand X91 hx (q := 72) rfl (hb hby at_71) ?_
      refine k_bipush X91 hx (v := (11 : Int32)) rfl (q := 74) rfl (hb hby at_72) ?_
      refine k_iload X91 hx (q := 76) rfl (hb hby at_74) rfl ?_
      refine k_isub X91 hx (q := 77) rfl (hb hby at_76) ?_
      refine k_irem X91 hx (q := 78) rfl (hb hby at_77) hnz ?_
      refine k_iadd X91 hx (q := 79) rfl (hb hby at_78) ?_
      refine k_istore X91 hx (L' := #[.val (.int x0), .val (.int x1), .val (.int x2), .val (.int x3), .val (.int nu), .val (.int sel), .val (.int (1 : Int32)), .val (.long ky), .second, .val (.int mn), .val (.int (mn + ((x3 &&& (2147483647 : Int32)) % ((11 : Int32) - mn)))), .unset, .unset, .unset, .unset, .unset, .unset, .unset, .unset, .unset, .unset, .unset, .unset]) (q := 81) rfl (hb hby at_79) rfl ?_
      generalize hln : (mn + ((x3 &&& (2147483647 : Int32)) % ((11 : Int32) - mn))) = len
      rw [hln] at hlen
      refine k_bipush X91 hx (v := (32 : Int32)) rfl (q := 83) rfl (hb hby at_81) ?_
      refine k_newP X91 hx hZ (hw _ (List.mem_of_getElem? (i := 7) rfl)) e91 (q := 85) rfl (hb hby at_83) (by decide) (cap := 32) (by decide) (by decide) (by decide) (by decide) ?_
      intro T92 h92 ar k92 X92 e92 g92 E92 A92
      have K92 := Keep.of_ext E92
      have V92 : Ary Z h92 ar .byte 32 (fun _ => .int (0 : Int32)) := Ary.new A92 (by decide) rfl
      refine k_astore X92 hx (L' := #[.val (.int x0), .val (.int x1), .val (.int x2), .val (.int x3), .val (.int nu), .val (.int sel), .val (.int (1 : Int32)), .val (.long ky), .second, .val (.int mn), .val (.int len), .val (.ref ar), .unset, .unset, .unset, .unset, .unset, .unset, .unset, .unset, .unset, .unset, .unset]) (q := 87) rfl (hb hby at_85) rfl rfl ?_
      refine k_aload X92 hx (q := 89) rfl (hb hby at_87) rfl rfl ?_
      refine k_iconst X92 hx (v := (0 : Int32)) rfl (q := 90) rfl (hb hby at_89) ?_
      refine k_lload X92 hx (q := 92) rfl (hb hby at_90) rfl ?_
      refine k_iconst X92 hx (v := (0 : Int32)) rfl (q := 93) rfl (hb hby at_92) ?_
      refine k_iload X92 hx (q := 95) rfl (hb hby at_93) rfl ?_
      refine k_callS X92 hx hZ (y := (⟨"com/example/footwise/footwise/osm/ProtobufNextPinLaw", "enc", "(JII)B"⟩ : MethodName)) hown (hw _ (List.mem_of_getElem? (i := 8) rfl)) (hw _ (List.mem_of_getElem? (i := 9) rfl)) (hw _ (List.mem_of_getElem? (i := 4) rfl)) (hw _ (List.mem_of_getElem? (i := 10) rfl)) (by decide) 2 e92 (rm2 l Z a0 hw ky (0 : Int32) len h92 n0) (by decide) (by decide) (by decide) (by decide) (by rw [hml]; rfl) (as := [(.long ky), (.int (0 : Int32)), (.int len)]) (rest := [(.int (0 : Int32)), (.ref ar)]) pd_6 rfl (by first | exact Nat.le_refl _ | simp [Value.category]) (q := 98) rfl (hb hby at_95) ?_
      rintro _ T93 L93 X93 ⟨rfl, N93q, e93⟩
      have N93 := Fr.app N91 N93q
      show End _ _ _ _ _ _ _ (T93.setTop (mkF m 98 #[.val (.int x0), .val (.int x1), .val (.int x2), .val (.int x3), .val (.int nu), .val (.int sel), .val (.int (1 : Int32)), .val (.long ky), .second, .val (.int mn), .val (.int len), .val (.ref ar), .unset, .unset, .unset, .unset, .unset, .unset, .unset, .unset, .unset, .unset, .unset] [(.int (f2 ky (0 : Int32) len)), (.int (0 : Int32)), (.ref ar)]))
      have ge_ar : n0 ≤ ar := Nat.le_trans Z0 (Nat.le_of_eq g92.symm)
      refine k_asB X93 hx hZ e93 0 (q := 99) rfl (hb hby at_98) V92 ⟨by decide, by decide⟩ (by decide) ?_
      intro T94 h94 X94 e94 W94 V94
      have K94 := Keep.of_wr W94
      have N94 := Fr.snoc X94 N93 ge_ar
      refine k_aload X94 hx (q := 101) rfl (hb hby at_99) rfl rfl ?_
      refine k_iconst X94 hx (v := (1 : Int32)) rfl (q := 102) rfl (hb hby at_101) ?_
      refine k_lload X94 hx (q := 104) rfl (hb hby at_102) rfl ?_
      refine k_iconst X94 hx (v := (1 : Int32)) rfl (q := 105) rfl (hb hby at_104) ?_
      refine k_iload X94 hx (q := 107) rfl (hb hby at_105) rfl ?_
      refine k_callS X94 hx hZ (y := (⟨"com/example/footwise/footwise/osm/ProtobufNextPinLaw", "enc", "(JII)B"⟩ : MethodName)) hown (hw _ (List.mem_of_getElem? (i := 8) rfl)) (hw _ (List.mem_of_getElem? (i := 9) rfl)) (hw _ (List.mem_of_getElem? (i := 4) rfl)) (hw _ (List.mem_of_getElem? (i := 10) rfl)) (by decide) 2 e94 (rm2 l Z a0 hw ky (1 : Int32) len h94 n0) (by decide) (by decide) (by decide) (by decide) (by rw [hml]; rfl) (as := [(.long ky), (.int (1 : Int32)), (.int len)]) (rest := [(.int (1 : Int32)), (.ref ar)]) pd_6 rfl (by first | exact Nat.le_refl _ | simp [Value.category]) (q := 110) rfl (hb hby at_107) ?_
      rintro _ T95 L95 X95 ⟨rfl, N95q, e95⟩
      have N95 := Fr.app N94 N95q
      show End _ _ _ _ _ _ _ (T95.setTop (mkF m 110 #[.val (.int x0), .val (.int x1), .val (.int x2), .val (.int x3), .val (.int nu), .val (.int sel), .val (.int (1 : Int32)), .val (.long ky), .second, .val (.int mn), .val (.int len), .val (.ref ar), .unset, .unset, .unset, .unset, .unset, .unset, .unset, .unset, .unset, .unset, .unset] [(.int (f2 ky (1 : Int32) len)), (.int (1 : Int32)), (.ref ar)]))
      refine k_asB X95 hx hZ e95 1 (q := 111) rfl (hb hby at_110) V94 ⟨by decide, by decide⟩ (by decide) ?_
      intro T96 h96 X96 e96 W96 V96
      have K96 := Keep.of_wr W96
      have N96 := Fr.snoc X96 N95 ge_ar
      refine k_aload X96 hx (q := 113) rfl (hb hby at_111) rfl rfl ?_
      refine k_iconst X96 hx (v := (2 : Int32)) rfl (q := 114) rfl (hb hby at_113) ?_
      refine k_lload X96 hx (q := 116) rfl (hb hby at_114) rfl ?_
      refine k_iconst X96 hx (v := (2 : Int32)) rfl (q := 117) rfl (hb hby at_116) ?_
      refine k_iload X96 hx (q := 119) rfl (hb hby at_117) rfl ?_
      refine k_callS X96 hx hZ (y := (⟨"com/example/footwise/footwise/osm/ProtobufNextPinLaw", "enc", "(JII)B"⟩ : MethodName)) hown (hw _ (List.mem_of_getElem? (i := 8) rfl)) (hw _ (List.mem_of_getElem? (i := 9) rfl)) (hw _ (List.mem_of_getElem? (i := 4) rfl)) (hw _ (List.mem_of_getElem? (i := 10) rfl)) (by decide) 2 e96 (rm2 l Z a0 hw ky (2 : Int32) len h96 n0) (by decide) (by decide) (by decide) (by decide) (by rw [hml]; rfl) (as := [(.long ky), (.int (2 : Int32)), (.int len)]) (rest := [(.int (2 : Int32)), (.ref ar)]) pd_6 rfl (by first | exact Nat.le_refl _ | simp [Value.category]) (q := 122) rfl (hb hby at_119) ?_
      rintro _ T97 L97 X97 ⟨rfl, N97q, e97⟩
      have N97 := Fr.app N96 N97q
      show End _ _ _ _ _ _ _ (T97.setTop (mkF m 122 #[.val (.int x0), .val (.int x1), .val (.int x2), .val (.int x3), .val (.int nu), .val (.int sel), .val (.int (1 : Int32)), .val (.long ky), .second, .val (.int mn), .val (.int len), .val (.ref ar), .unset, .unset, .unset, .unset, .unset, .unset, .unset, .unset, .unset, .unset, .unset] [(.int (f2 ky (2 : Int32) len)), (.int (2 : Int32)), (.ref ar)]))
      refine k_asB X97 hx hZ e97 2 (q := 123) rfl (hb hby at_122) V96 ⟨by decide, by decide⟩ (by decide) ?_
      intro T98 h98 X98 e98 W98 V98
      have K98 := Keep.of_wr W98
      have N98 := Fr.snoc X98 N97 ge_ar
      refine k_aload X98 hx (q := 125) rfl (hb hby at_123) rfl rfl ?_
      refine k_iconst X98 hx (v := (3 : Int32)) rfl (q := 126) rfl (hb hby at_125) ?_
      refine k_lload X98 hx (q := 128) rfl (hb hby at_126) rfl ?_
      refine k_iconst X98 hx (v := (3 : Int32)) rfl (q := 129) rfl (hb hby at_128) ?_
      refine k_iload X98 hx (q := 131) rfl (hb hby at_129) rfl ?_
      refine k_callS X98 hx hZ (y := (⟨"com/example/footwise/footwise/osm/ProtobufNextPinLaw", "enc", "(JII)B"⟩ : MethodName)) hown (hw _ (List.mem_of_getElem? (i := 8) rfl)) (hw _ (List.mem_of_getElem? (i := 9) rfl)) (hw _ (List.mem_of_getElem? (i := 4) rfl)) (hw _ (List.mem_of_getElem? (i := 10) rfl)) (by decide) 2 e98 (rm2 l Z a0 hw ky (3 : Int32) len h98 n0) (by decide) (by decide) (by decide) (by decide) (by rw [hml]; rfl) (as := [(.long ky), (.int (3 : Int32)), (.int len)]) (rest := [(.int (3 : Int32)), (.ref ar)]) pd_6 rfl (by first | exact Nat.le_refl _ | simp [Value.category]) (q := 134) rfl (hb hby at_131) ?_
      rintro _ T99 L99 X99 ⟨rfl, N99q, e99⟩
      have N99 := Fr.app N98 N99q
      show End _ _ _ _ _ _ _ (T99.setTop (mkF m 134 #[.val (.int x0), .val (.int x1), .val (.int x2), .val (.int x3), .val (.int nu), .val (.int sel), .val (.int (1 : Int32)), .val (.long ky), .second, .val (.int mn), .val (.int len), .val (.ref ar), .unset, .unset, .unset, .unset, .unset, .unset, .unset, .unset, .unset, .unset, .unset] [(.int (f2 ky (3 : Int32) len)), (.int (3 : Int32)), (.ref ar)]))
      refine k_asB X99 hx hZ e99 3 (q := 135) rfl (hb hby at_134) V98 ⟨by decide, by decide⟩ (by decide) ?_
      intro T100 h100 X100 e100 W100 V100
      have K100 := Keep.of_wr W100
      have N100 := Fr.snoc X100 N99 ge_ar
      refine k_aload X100 hx (q := 137) rfl (hb hby at_135) rfl rfl ?_
      refine k_iconst X100 hx (v := (4 : Int32)) rfl (q := 138) rfl (hb hby at_137) ?_
      refine k_lload X100 hx (q := 140) rfl (hb hby at_138) rfl ?_
      refine k_iconst X100 hx (v := (4 : Int32)) rfl (q := 141) rfl (hb hby at_140) ?_
      refine k_iload X100 hx (q := 143) rfl (hb hby at_141) rfl ?_
      refine k_callS X100 hx hZ (y := (⟨"com/example/footwise/footwise/osm/ProtobufNextPinLaw", "enc", "(JII)B"⟩ : MethodName)) hown (hw _ (List.mem_of_getElem? (i := 8) rfl)) (hw _ (List.mem_of_getElem? (i := 9) rfl)) (hw _ (List.mem_of_getElem? (i := 4) rfl)) (hw _ (List.mem_of_getElem? (i := 10) rfl)) (by decide) 2 e100 (rm2 l Z a0 hw ky (4 : Int32) len h100 n0) (by decide) (by decide) (by decide) (by decide) (by rw [hml]; rfl) (as := [(.long ky), (.int (4 : Int32)), (.int len)]) (rest := [(.int (4 : Int32)), (.ref ar)]) pd_6 rfl (by first | exact Nat.le_refl _ | simp [Value.category]) (q := 146) rfl (hb hby at_143) ?_
      rintro _ T101 L101 X101 ⟨rfl, N101q, e101⟩
      have N101 := Fr.app N100 N101q
      show End _ _ _ _ _ _ _ (T101.setTop (mkF m 146 #[.val (.int x0), .val (.int x1), .val (.int x2), .val (.int x3), .val (.int nu), .val (.int sel), .val (.int (1 : Int32)), .val (.long ky), .second, .val (.int mn), .val (.int len), .val (.ref ar), .unset, .unset, .unset, .unset, .unset, .unset, .unset, .unset, .unset, .unset, .unset] [(.int (f2 ky (4 : Int32) len)), (.int (4 : Int32)), (.ref ar)]))
      refine k_asB X101 hx hZ e101 4 (q := 147) rfl (hb hby at_146) V100 ⟨by decide, by decide⟩ (by decide) ?_
      intro T102 h102 X102 e102 W102 V102
      have K102 := Keep.of_wr W102
      have N102 := Fr.snoc X102 N101 ge_ar
      refine k_aload X102 hx (q := 149) rfl (hb hby at_147) rfl rfl ?_
      refine k_iconst X102 hx (v := (5 : Int32)) rfl (q := 150) rfl (hb hby at_149) ?_
      refine k_lload X102 hx (q := 152) rfl (hb hby at_150) rfl ?_
      refine k_iconst X102 hx (v := (5 : Int32)) rfl (q := 153) rfl (hb hby at_152) ?_
      refine k_iload X102 hx (q := 155) rfl (hb hby at_153) rfl ?_
      refine k_callS X102 hx hZ (y := (⟨"com/example/footwise/footwise/osm/ProtobufNextPinLaw", "enc", "(JII)B"⟩ : MethodName)) hown (hw _ (List.mem_of_getElem? (i := 8) rfl)) (hw _ (List.mem_of_getElem? (i := 9) rfl)) (hw _ (List.mem_of_getElem? (i := 4) rfl)) (hw _ (List.mem_of_getElem? (i := 10) rfl)) (by decide) 2 e102 (rm2 l Z a0 hw ky (5 : Int32) len h102 n0) (by decide) (by decide) (by decide) (by decide) (by rw [hml]; rfl) (as := [(.long ky), (.int (5 : Int32)), (.int len)]) (rest := [(.int (5 : Int32)), (.ref ar)]) pd_6 rfl (by first | exact Nat.le_refl _ | simp [Value.category]) (q := 158) rfl (hb hby at_155) ?_
      rintro _ T103 L103 X103 ⟨rfl, N103q, e103⟩
      have N103 := Fr.app N102 N103q
      show End _ _ _ _ _ _ _ (T103.setTop (mkF m 158 #[.val (.int x0), .val (.int x1), .val (.int x2), .val (.int x3), .val (.int nu), .val (.int sel), .val (.int (1 : Int32)), .val (.long ky), .second, .val (.int mn), .val (.int len), .val (.ref ar), .unset, .unset, .unset, .unset, .unset, .unset, .unset, .unset, .unset, .unset, .unset] [(.int (f2 ky (5 : Int32) len)), (.int (5 : Int32)), (.ref ar)]))
      refine k_asB X103 hx hZ e103 5 (q := 159) rfl (hb hby at_158) V102 ⟨by decide, by decide⟩ (by decide) ?_
      intro T104 h104 X104 e104 W104 V104
      have K104 := Keep.of_wr W104
      have N104 := Fr.snoc X104 N103 ge_ar
      refine k_aload X104 hx (q := 161) rfl (hb hby at_159) rfl rfl ?_
      refine k_bipush X104 hx (v := (6 : Int32)) rfl (q := 163) rfl (hb hby at_161) ?_
      refine k_lload X104 hx (q := 165) rfl (hb hby at_163) rfl ?_
      refine k_bipush X104 hx (v := (6 : Int32)) rfl (q := 167) rfl (hb hby at_165) ?_
      refine k_iload X104 hx (q := 169) rfl (hb hby at_167) rfl ?_
      refine k_callS X104 hx hZ (y := (⟨"com/example/footwise/footwise/osm/ProtobufNextPinLaw", "enc", "(JII)B"⟩ : MethodName)) hown (hw _ (List.mem_of_getElem? (i := 8) rfl)) (hw _ (List.mem_of_getElem? (i := 9) rfl)) (hw _ (List.mem_of_getElem? (i := 4) rfl)) (hw _ (List.mem_of_getElem? (i := 10) rfl)) (by decide) 2 e104 (rm2 l Z a0 hw ky (6 : Int32) len h104 n0) (by decide) (by decide) (by decide) (by decide) (by rw [hml]; rfl) (as := [(.long ky), (.int (6 : Int32)), (.int len)]) (rest := [(.int (6 : Int32)), (.ref ar)]) pd_6 rfl (by first | exact Nat.le_refl _ | simp [Value.category]) (q := 172) rfl (hb hby at_169) ?_
      rintro _ T105 L105 X105 ⟨rfl, N105q, e105⟩
      have N105 := Fr.app N104 N105q
      show End _ _ _ _ _ _ _ (T105.setTop (mkF m 172 #[.val (.int x0), .val (.int x1), .val (.int x2), .val (.int x3), .val (.int nu), .val (.int sel), .val (.int (1 : Int32)), .val (.long ky), .second, .val (.int mn), .val (.int len), .val (.ref ar), .unset, .unset, .unset, .unset, .unset, .unset, .unset, .unset, .unset, .unset, .unset] [(.int (f2 ky (6 : Int32) len)), (.int (6 : Int32)), (.ref ar)]))
      refine k_asB X105 hx hZ e105 6 (q := 173) rfl (hb hby at_172) V104 ⟨by decide, by decide⟩ (by decide) ?_
      intro T106 h106 X106 e106 W106 V106
      have K106 := Keep.of_wr W106
      have N106 := Fr.snoc X106 N105 ge_ar
      refine k_aload X106 hx (q := 175) rfl (hb hby at_173) rfl rfl ?_
      refine k_bipush X106 hx (v := (7 : Int32)) rfl (q := 177) rfl (hb hby at_175) ?_
      refine k_lload X106 hx (q := 179) rfl (hb hby at_177) rfl ?_
      refine k_bipush X106 hx (v := (7 : Int32)) rfl (q := 181) rfl (hb hby at_179) ?_
      refine k_iload X106 hx (q := 183) rfl (hb hby at_181) rfl ?_
      refine k_callS X106 hx hZ (y := (⟨"com/example/footwise/footwise/osm/ProtobufNextPinLaw", "enc", "(JII)B"⟩ : MethodName)) hown (hw _ (List.mem_of_getElem? (i := 8) rfl)) (hw _ (List.mem_of_getElem? (i := 9) rfl)) (hw _ (List.mem_of_getElem? (i := 4) rfl)) (hw _ (List.mem_of_getElem? (i := 10) rfl)) (by decide) 2 e106 (rm2 l Z a0 hw ky (7 : Int32) len h106 n0) (by decide) (by decide) (by decide) (by decide) (by rw [hml]; rfl) (as := [(.long ky), (.int (7 : Int32)), (.int len)]) (rest := [(.int (7 : Int32)), (.ref ar)]) pd_6 rfl (by first | exact Nat.le_refl _ | simp [Value.category]) (q := 186) rfl (hb hby at_183) ?_
      rintro _ T107 L107 X107 ⟨rfl, N107q, e107⟩
      have N107 := Fr.app N106 N107q
      show End _ _ _ _ _ _ _ (T107.setTop (mkF m 186 #[.val (.int x0), .val (.int x1), .val (.int x2), .val (.int x3), .val (.int nu), .val (.int sel), .val (.int (1 : Int32)), .val (.long ky), .second, .val (.int mn), .val (.int len), .val (.ref ar), .unset, .unset, .unset, .unset, .unset, .unset, .unset, .unset, .unset, .unset, .unset] [(.int (f2 ky (7 : Int32) len)), (.int (7 : Int32)), (.ref ar)]))
      refine k_asB X107 hx hZ e107 7 (q := 187) rfl (hb hby at_186) V106 ⟨by decide, by decide⟩ (by decide) ?_
      intro T108 h108 X108 e108 W108 V108
      have K108 := Keep.of_wr W108
      have N108 := Fr.snoc X108 N107 ge_ar
      refine k_aload X108 hx (q := 189) rfl (hb hby at_187) rfl rfl ?_
      refine k_bipush X108 hx (v := (8 : Int32)) rfl (q := 191) rfl (hb hby at_189) ?_
      refine k_lload X108 hx (q := 193) rfl (hb hby at_191) rfl ?_
      refine k_bipush X108 hx (v := (8 : Int32)) rfl (q := 195) rfl (hb hby at_193) ?_
      refine k_iload X108 hx (q := 197) rfl (hb hby at_195) rfl ?_
      refine k_callS X108 hx hZ (y := (⟨"com/example/footwise/footwise/osm/ProtobufNextPinLaw", "enc", "(JII)B"⟩ : MethodName)) hown (hw _ (List.mem_of_getElem? (i := 8) rfl)) (hw _ (List.mem_of_getElem? (i := 9) rfl)) (hw _ (List.mem_of_getElem? (i := 4) rfl)) (hw _ (List.mem_of_getElem? (i := 10) rfl)) (by decide) 2 e108 (rm2 l Z a0 hw ky (8 : Int32) len h108 n0) (by decide) (by decide) (by decide) (by decide) (by rw [hml]; rfl) (as := [(.long ky), (.int (8 : Int32)), (.int len)]) (rest := [(.int (8 : Int32)), (.ref ar)]) pd_6 rfl (by first | exact Nat.le_refl _ | simp [Value.category]) (q := 200) rfl (hb hby at_197) ?_
      rintro _ T109 L109 X109 ⟨rfl, N109q, e109⟩
      have N109 := Fr.app N108 N109q
      show End _ _ _ _ _ _ _ (T109.setTop (mkF m 200 #[.val (.int x0), .val (.int x1), .val (.int x2), .val (.int x3), .val (.int nu), .val (.int sel), .val (.int (1 : Int32)), .val (.long ky), .second, .val (.int mn), .val (.int len), .val (.ref ar), .unset, .unset, .unset, .unset, .unset, .unset, .unset, .unset, .unset, .unset, .unset] [(.int (f2 ky (8 : Int32) len)), (.int (8 : Int32)), (.ref ar)]))
      refine k_asB X109 hx hZ e109 8 (q := 201) rfl (hb hby at_200) V108 ⟨by decide, by decide⟩ (by decide) ?_
      intro T110 h110 X110 e110 W110 V110
      have K110 := Keep.of_wr W110
      have N110 := Fr.snoc X110 N109 ge_ar
      refine k_aload X110 hx (q := 203) rfl (hb hby at_201) rfl rfl ?_
      refine k_bipush X110 hx (v := (9 : Int32)) rfl (q := 205) rfl (hb hby at_203) ?_
      refine k_lload X110 hx (q := 207) rfl (hb hby at_205) rfl ?_
      refine k_bipush X110 hx (v := (9 : Int32)) rfl (q := 209) rfl (hb hby at_207) ?_
      refine k_iload X110 hx (q := 211) rfl (hb hby at_209) rfl ?_
      refine k_callS X110 hx hZ (y := (⟨"com/example/footwise/footwise/osm/ProtobufNextPinLaw", "enc", "(JII)B"⟩ : MethodName)) hown (hw _ (List.mem_of_getElem? (i := 8) rfl)) (hw _ (List.mem_of_getElem? (i := 9) rfl)) (hw _ (List.mem_of_getElem? (i := 4) rfl)) (hw _ (List.mem_of_getElem? (i := 10) rfl)) (by decide) 2 e110 (rm2 l Z a0 hw ky (9 : Int32) len h110 n0) (by decide) (by decide) (by decide) (by decide) (by rw [hml]; rfl) (as := [(.long ky), (.int (9 : Int32)), (.int len)]) (rest := [(.int (9 : Int32)), (.ref ar)]) pd_6 rfl (by first | exact Nat.le_refl _ | simp [Value.category]) (q := 214) rfl (hb hby at_211) ?_
      rintro _ T111 L111 X111 ⟨rfl, N111q, e111⟩
      have N111 := Fr.app N110 N111q
      show End _ _ _ _ _ _ _ (T111.setTop (mkF m 214 #[.val (.int x0), .val (.int x1), .val (.int x2), .val (.int x3), .val (.int nu), .val (.int sel), .val (.int (1 : Int32)), .val (.long ky), .second, .val (.int mn), .val (.int len), .val (.ref ar), .unset, .unset, .unset, .unset, .unset, .unset, .unset, .unset, .unset, .unset, .unset] [(.int (f2 ky (9 : Int32) len)), (.int (9 : Int32)), (.ref ar)]))
      refine k_asB X111 hx hZ e111 9 (q := 215) rfl (hb hby at_214) V110 ⟨by decide, by decide⟩ (by decide) ?_
      intro T112 h112 X112 e112 W112 V112
      have K112 := Keep.of_wr W112
      have N112 := Fr.snoc X112 N111 ge_ar
      have Ve : Ary Z h112 ar .byte 32 (fun t => .int (if t < 10 then nar .byte (f2 ky t.toInt32 len) else 0)) := V112.congr fun t ht => by
        by_cases q : t < 10
        · have : t = 0 ∨ t = 1 ∨ t = 2 ∨ t = 3 ∨ t = 4 ∨ t = 5 ∨ t = 6 ∨ t = 7 ∨ t = 8 ∨ t = 9 := by omega
          rcases this with rfl | rfl | rfl | rfl | rfl | rfl | rfl | rfl | rfl | rfl <;> rfl
        · simp only [if_neg q, if_neg (show ¬ t = 0 by omega), if_neg (show ¬ t = 1 by omega), if_neg (show ¬ t = 2 by omega), if_neg (show ¬ t = 3 by omega), if_neg (show ¬ t = 4 by omega), if_neg (show ¬ t = 5 by omega), if_neg (show ¬ t = 6 by omega), if_neg (show ¬ t = 7 by omega), if_neg (show ¬ t = 8 by omega), if_neg (show ¬ t = 9 by omega)]
      refine k_iload X112 hx (q := 217) rfl (hb hby at_215) rfl ?_
      refine k_if_ne X112 hx (q1 := 255) (q := 220) (by decide) (by decide) rfl (hb hby at_217) (fun _ => ?_) (fun hc => absurd hc (by decide))
      refine k_iload X112 hx (q := 257) rfl (hb hby at_255) rfl ?_
      refine k_iconst X112 hx (v := (1 : Int32)) rfl (q := 258) rfl (hb hby at_257) ?_
      refine k_icmp_ne X112 hx (q1 := 290) (q := 261) (by decide) (by decide) rfl (hb hby at_258) (fun hc => absurd rfl hc) (fun _ => ?_)
      refine k_bipush X112 hx (v := (8 : Int32)) rfl (q := 263) rfl (hb hby at_261) ?_
      refine k_istore X112 hx (L' := #[.val (.int x0), .val (.int x1), .val (.int x2), .val (.int x3), .val (.int nu), .val (.int sel), .val (.int (1 : Int32)), .val (.long ky), .second, .val (.int mn), .val (.int len), .val (.ref ar), .val (.int (8 : Int32)), .unset, .unset, .unset, .unset, .unset, .unset, .unset, .unset, .unset, .unset]) (q := 265) rfl (hb hby at_263) rfl ?_
      refine k_aload X112 hx (q := 267) rfl (hb hby at_265) rfl rfl ?_
      refine k_iload X112 hx (q := 269) rfl (hb hby at_267) rfl ?_
      refine k_iloadN X112 hx (q := 270) rfl (hb hby at_269) rfl ?_
      refine k_i2b X112 hx (q := 271) rfl (hb hby at_270) ?_
      refine k_asB X112 hx hZ e112 n (q := 272) rfl (hb hby at_271) Ve hlen (by omega) ?_
      intro T115 h115 X115 e115 W115 V115
      have K115 := Keep.of_wr W115
      have N115 := Fr.snoc X115 N112 ge_ar
      have hl1 : Ix (len + (8 : Int32) - (1 : Int32)) (n + 7) := own_dec (own_addi hlen (y := (8 : Int32)) (b := 8) ⟨by decide, by decide⟩ (by omega)) (by omega)
      refine k_aload X115 hx (q := 274) rfl (hb hby at_272) rfl rfl ?_
      refine k_iload X115 hx (q := 276) rfl (hb hby at_274) rfl ?_
      refine k_iload X115 hx (q := 278) rfl (hb hby at_276) rfl ?_
      refine k_iadd X115 hx (q := 279) rfl (hb hby at_278) ?_
      refine k_iconst X115 hx (v := (1 : Int32)) rfl (q := 280) rfl (hb hby at_279) ?_
      refine k_isub X115 hx (q := 281) rfl (hb hby at_280) ?_
      refine k_iloadN X115 hx (q := 282) rfl (hb hby at_281) rfl ?_
      refine k_bipush X115 hx (v := (8 : Int32)) rfl (q := 284) rfl (hb hby at_282) ?_
      refine k_iushr X115 hx (q := 285) rfl (hb hby at_284) ?_
      refine k_i2b X115 hx (q := 286) rfl (hb hby at_285) ?_
      refine k_asB X115 hx hZ e115 (n + 7) (q := 287) rfl (hb hby at_286) V115 hl1 (by omega) ?_
      intro T116 h116 X116 e116 W116 V116
      have K116 := Keep.of_wr W116
      have N116 := Fr.snoc X116 N115 ge_ar
      refine k_goto X116 hx (q := 344) (by decide) (by decide) (hb hby at_287) ?_
      refine k_iload X116 hx (q := 346) rfl (hb hby at_344) rfl ?_
      refine k_iload X116 hx (q := 348) rfl (hb hby at_346) rfl ?_
      refine k_iadd X116 hx (q := 349) rfl (hb hby at_348) ?_
      refine k_istore X116 hx (L' := #[.val (.int x0), .val (.int x1), .val (.int x2), .val (.int x3), .val (.int nu), .val (.int sel), .val (.int (1 : Int32)), .val (.long ky), .second, .val (.int mn), .val (.int len), .val (.ref ar), .val (.int (8 : Int32)), .val (.int (len + (8 : Int32))), .unset, .unset, .unset, .unset, .unset, .unset, .unset, .unset, .unset]) (q := 351) rfl (hb hby at_349) rfl ?_
      have hp : Ix (len + (8 : Int32)) (n + 8) := own_addi hlen ⟨by decide, by decide⟩ (by omega)
      generalize hpp : (len + (8 : Int32)) = pp
      rw [hpp] at hp
      refine k_aload X116 hx (q := 353) rfl (hb hby at_351) rfl rfl ?_
      refine k_iload X116 hx (q := 355) rfl (hb hby at_353) rfl ?_
      refine k_bipush X116 hx (v := (10 : Int32)) rfl (q := 357) rfl (hb hby at_355) ?_
      refine k_asB X116 hx hZ e116 (n + 8) (q := 358) rfl (hb hby at_357) V116 hp (by omega) ?_
      intro T117 h117 X117 e117 W117 V117
      have K117 := Keep.of_wr W117
      have N117 := Fr.snoc X117 N116 ge_ar
      have hp1 := own_up hp (by omega)
      refine k_aload X117 hx (q := 360) rfl (hb hby at_358) rfl rfl ?_
      refine k_iload X117 hx (q := 362) rfl (hb hby at_360) rfl ?_
      refine k_iconst X117 hx (v := (1 : Int32)) rfl (q := 363) rfl (hb hby at_362) ?_
      refine k_iadd X117 hx (q := 364) rfl (hb hby at_363) ?_
      refine k_bipush X117 hx (v := (32 : Int32)) rfl (q := 366) rfl (hb hby at_364) ?_
      refine k_iload X117 hx (q := 368) rfl (hb hby at_366) rfl ?_
      refine k_isub X117 hx (q := 369) rfl (hb hby at_368) ?_
      refine k_iconst X117 hx (v := (2 : Int32)) rfl (q := 370) rfl (hb hby at_369) ?_
      refine k_isub X117 hx (q := 371) rfl (hb hby at_370) ?_
      refine k_i2b X117 hx (q := 372) rfl (hb hby at_371) ?_
      refine k_asB X117 hx hZ e117 ((n + 8) + 1) (q := 373) rfl (hb hby at_372) V117 hp1 (by omega) ?_
      intro T118 h118 X118 e118 W118 V118
      have K118 := Keep.of_wr W118
      have N118 := Fr.snoc X118 N117 ge_ar
      obtain ⟨g, hg⟩ : ∃ g : Nat → Int32, g = fun t => (if t = ((n + 8) + 1) then nar .byte ((((32 : Int32) - pp) - (2 : Int32)).toInt8.toInt32) else (if t = (n + 8) then nar .byte (10 : Int32) else (if t = (n + 7) then nar .byte (((x2.toUInt32 >>> ((8 : Int32) &&& 31).toUInt32).toInt32).toInt8.toInt32) else (if t = n then nar .byte (x2.toInt8.toInt32) else (if t < 10 then nar .byte (f2 ky t.toInt32 len) else 0))))) := ⟨_, rfl⟩
      have Vg : Ary Z h118 ar .byte 32 (fun t => .int (g t)) := V118.congr fun t ht => by
        rw [hg]
        show _ = Value.int (if t = ((n + 8) + 1) then nar .byte ((((32 : Int32) - pp) - (2 : Int32)).toInt8.toInt32) else (if t = (n + 8) then nar .byte (10 : Int32) else (if t = (n + 7) then nar .byte (((x2.toUInt32 >>> ((8 : Int32) &&& 31).toUInt32).toInt32).toInt8.toInt32) else (if t = n then nar .byte (x2.toInt8.toInt32) else (if t < 10 then nar .byte (f2 ky t.toInt32 len) else 0)))))
        repeat' split
        all_goals rfl
      have g_lo : ∀ t, t < n → g t = nar .byte (f2 ky t.toInt32 len) := fun t ht => by
        rw [hg]; simp only [if_neg (show ¬ t = n by omega), if_neg (show ¬ t = (n + 7) by omega), if_neg (show ¬ t = (n + 8) by omega), if_neg (show ¬ t = ((n + 8) + 1) by omega), if_pos (show t < 10 by omega)]
      have g_p : g (n + 8) = nar .byte ((10 : Int32)) := by
        rw [hg]; simp only [if_neg (show ¬ (n + 8) = ((n + 8) + 1) by omega), if_true]
      have g_p1 : g ((n + 8) + 1) = nar .byte ((((32 : Int32) - pp) - (2 : Int32)).toInt8.toInt32) := by
        rw [hg]; simp only [if_true]
      have hk0' : 0 ≤ ky.toInt := by omega
      have hraw : own_raw g 0 n = ky := own_whole g ky hk0' hm5 hmk hmn' hn10 fun t ht => by
        rw [g_lo t ht, own_enc ky hk0' hlen hn10 ht]
        have d0 := Int.emod_nonneg (ky.toInt / 128 ^ t) (show (128 : Int) ≠ 0 by decide)
        have d1 := Int.emod_lt_of_pos (ky.toInt / 128 ^ t) (show (0 : Int) < 128 by decide)
        split <;> omega
      have hneg : ∀ t, t < n - 1 → g (0 + t) < 0 := fun t ht => by
        have e := own_enc ky hk0' hlen hn10 (t := t) (by omega)
        rw [← g_lo t (by omega), if_neg (by omega)] at e
        have d1 := Int.emod_lt_of_pos (ky.toInt / 128 ^ t) (show (0 : Int) < 128 by decide)
        rw [Nat.zero_add, Int32.lt_iff_toInt_lt, e]
        have : (0 : Int32).toInt = 0 := by decide
        omega
      have hnon : ¬ g (0 + (n - 1)) < 0 := by
        have e := own_enc ky hk0' hlen hn10 (t := n - 1) (by omega)
        rw [← g_lo (n - 1) (by omega), if_pos rfl] at e
        have d0 := Int.emod_nonneg (ky.toInt / 128 ^ (n - 1)) (show (128 : Int) ≠ 0 by decide)
        rw [Nat.zero_add, Int32.lt_iff_toInt_lt, e]
        have : (0 : Int32).toInt = 0 := by decide
        omega
      obtain ⟨hf1, hf2, hf3, hf4⟩ := own_fields (w := (1 : Int32)) hky hnu1 hnu2 (by decide) (by decide)
      have g_p' : (g (n + 8)).toInt = 10 := by rw [g_p]; decide
      have g_p1' : (g ((n + 8) + 1)).toInt = 30 - ((n + 8) : Nat) := by
        rw [g_p1]
        have i := hp.int
        have s1 := c_isub 32 pp
        have s2 := c_isub ((32 : Int32) - pp) 2
        have e32 : (32 : Int32).toInt = 32 := by decide
        have e2 : (2 : Int32).toInt = 2 := by decide
        have r1 := rng32 ((32 : Int32) - pp)
        have r2 := rng32 ((32 : Int32) - pp - 2)
        have b1 := c_i2b ((32 : Int32) - pp - 2)
        have b2 := own_nb ((32 : Int32) - pp - 2).toInt8.toInt32
        omega
      refine k_new X118 hx hZ hown (hw _ (List.mem_of_getElem? (i := 12) rfl)) (hw _ (List.mem_of_getElem? (i := 13) rfl)) (hw _ (List.mem_of_getElem? (i := 14) rfl)) e118 (q := 376) rfl (hb hby at_373) (by decide) (by decide) ?_
      intro T119 h119 pe X119 e119 g119 E119 A119 D119
      have K119 := Keep.of_ext E119
      have F120 : Fld Z h119 pe "com/example/footwise/footwise/osm/Protobuf" "bytes" "[B" .null := D119 (Or.inr (hw _ (List.mem_of_getElem? (i := 25) rfl))) (ty := (.array .byte)) (by decide)
      have F121 : Fld Z h119 pe "com/example/footwise/footwise/osm/Protobuf" "position" "I" (.int (0 : Int32)) := D119 (Or.inl (hw _ (List.mem_of_getElem? (i := 27) rfl))) (ty := .int) (by decide)
      have F122 : Fld Z h119 pe "com/example/footwise/footwise/osm/Protobuf" "end" "I" (.int (0 : Int32)) := D119 (Or.inr (hw _ (List.mem_of_getElem? (i := 29) rfl))) (ty := .int) (by decide)
      have F123 : Fld Z h119 pe "com/example/footwise/footwise/osm/Protobuf" "field" "I" (.int (0 : Int32)) := D119 (Or.inl (hw _ (List.mem_of_getElem? (i := 41) rfl))) (ty := .int) (by decide)
      have F124 : Fld Z h119 pe "com/example/footwise/footwise/osm/Protobuf" "wireType" "I" (.int (0 : Int32)) := D119 (Or.inl (hw _ (List.mem_of_getElem? (i := 44) rfl))) (ty := .int) (by decide)
      refine k_dup X119 hx (q := 377) rfl (hb hby at_376) rfl ?_
      refine k_iconst X119 hx (v := (0 : Int32)) rfl (q := 378) rfl (hb hby at_377) ?_
      refine k_newP X119 hx hZ (hw _ (List.mem_of_getElem? (i := 7) rfl)) e119 (q := 380) rfl (hb hby at_378) (by decide) (cap := 0) (by decide) (by decide) (by decide) (by decide) ?_
      intro T125 h125 ea k125 X125 e125 g125 E125 A125
      have K125 := Keep.of_ext E125
      have V125 : Ary Z h125 ea .byte 0 (fun _ => .int (0 : Int32)) := Ary.new A125 (by decide) rfl
      have Sz140 : n0 ≤ h92.size := Nat.le_trans Z0 K92.1
      have Sz139 : n0 ≤ h94.size := Nat.le_trans Sz140 K94.1
      have Sz138 : n0 ≤ h96.size := Nat.le_trans Sz139 K96.1
      have Sz137 : n0 ≤ h98.size := Nat.le_trans Sz138 K98.1
      have Sz136 : n0 ≤ h100.size := Nat.le_trans Sz137 K100.1
      have Sz135 : n0 ≤ h102.size := Nat.le_trans Sz136 K102.1
      have Sz134 : n0 ≤ h104.size := Nat.le_trans Sz135 K104.1
      have Sz133 : n0 ≤ h106.size := Nat.le_trans Sz134 K106.1
      have Sz132 : n0 ≤ h108.size := Nat.le_trans Sz133 K108.1
      have Sz131 : n0 ≤ h110.size := Nat.le_trans Sz132 K110.1
      have Sz130 : n0 ≤ h112.size := Nat.le_trans Sz131 K112.1
      have Sz129 : n0 ≤ h115.size := Nat.le_trans Sz130 K115.1
      have Sz128 : n0 ≤ h116.size := Nat.le_trans Sz129 K116.1
      have Sz127 : n0 ≤ h117.size := Nat.le_trans Sz128 K117.1
      have Sz126 : n0 ≤ h118.size := Nat.le_trans Sz127 K118.1
      have ge_pe : n0 ≤ pe := Nat.le_trans Sz126 (Nat.le_of_eq g119.symm)
      have G141 := (A119.keep K125)
      have G142 := (F120.keep K125 nin0)
      have G143 := (F121.keep K125 nin0)
      have G144 := (F122.keep K125 nin0)
      have G145 := (F123.keep K125 nin0)
      have G146 := (F124.keep K125 nin0)
      refine k_callI X125 hx hZ (y := (⟨"com/example/footwise/footwise/osm/Protobuf", "<init>", "([B)V"⟩ : MethodName)) hown rfl (hw _ (List.mem_of_getElem? (i := 15) rfl)) (hw _ (List.mem_of_getElem? (i := 16) rfl)) (hw _ (List.mem_of_getElem? (i := 14) rfl)) (hw _ (List.mem_of_getElem? (i := 17) rfl)) (by decide) 1 e125 (rm3 l Z a0 hw pe ea h125 n0 ge_pe G141 G142 G143 G144 G145 G146 0 _ V125) (by decide) (by decide) (by decide) (by decide) (by rw [hml]; rfl) (a := pe) (as := [(.ref ea)]) (rest := [(.ref pe)]) pd_7 rfl (by first | exact Nat.le_refl _ | simp [Value.category]) (q := 383) rfl (hb hby at_380) ?_
      rintro _ T147 L147 X147 ⟨rfl, N147q, K147, P147⟩
      have N147 := Fr.app N118 N147q
      show End _ _ _ _ _ _ _ (T147.setTop (mkF m 383 #[.val (.int x0), .val (.int x1), .val (.int x2), .val (.int x3), .val (.int nu), .val (.int sel), .val (.int (1 : Int32)), .val (.long ky), .second, .val (.int mn), .val (.int len), .val (.ref ar), .val (.int (8 : Int32)), .val (.int pp), .unset, .unset, .unset, .unset, .unset, .unset, .unset, .unset, .unset] [(.ref pe)]))
      refine k_astore X147 hx (L' := #[.val (.int x0), .val (.int x1), .val (.int x2), .val (.int x3), .val (.int nu), .val (.int sel), .val (.int (1 : Int32)), .val (.long ky), .second, .val (.int mn), .val (.int len), .val (.ref ar), .val (.int (8 : Int32)), .val (.int pp), .val (.ref pe), .unset, .unset, .unset, .unset, .unset, .unset, .unset, .unset]) (q := 385) rfl (hb hby at_383) rfl rfl ?_
      refine k_aload X147 hx (q := 387) rfl (hb hby at_385) rfl rfl ?_
      have ne_pe_ea : pe ≠ ea := Nat.ne_of_lt (Nat.lt_of_lt_of_le (A119).lt (Nat.le_of_eq g125.symm))
      refine k_callV X147 hx hZ (y := (⟨"com/example/footwise/footwise/osm/Protobuf", "next", "()Z"⟩ : MethodName)) (z := (⟨"com/example/footwise/footwise/osm/Protobuf", "next", "()Z"⟩ : MethodName)) hown (hw _ (List.mem_of_getElem? (i := 30) rfl)) (hw _ (List.mem_of_getElem? (i := 31) rfl)) (notFace_of_selects (args := #[]) (mvT hZ (hw _ (List.mem_of_getElem? (i := 33) rfl)))) (hw _ (List.mem_of_getElem? (i := 33) rfl)) (hw _ (List.mem_of_getElem? (i := 32) rfl)) (hw _ (List.mem_of_getElem? (i := 34) rfl)) (hw _ (List.mem_of_getElem? (i := 14) rfl)) (by decide) P147.1 0 rfl (rm6e l Z a0 hw pe T147.heap n0 ge_pe ea 0 _ 0 0 P147 (Ne.symm ne_pe_ea) 0 0 ⟨by decide, by decide⟩ (own_nat (by decide)) (by decide) (by decide)) (by decide) (by decide) (by decide) (by decide) (by rw [hml]; rfl) (a := pe) (as := []) (rest := []) pd_8 rfl (by first | exact Nat.le_refl _ | simp [Value.category]) (q := 390) rfl (hb hby at_387) ?_
      rintro _ T148 L148 X148 ⟨rfl, N148q, e148⟩
      have N148 := Fr.app N147 N148q
      show End _ _ _ _ _ _ _ (T148.setTop (mkF m 390 #[.val (.int x0), .val (.int x1), .val (.int x2), .val (.int x3), .val (.int nu), .val (.int sel), .val (.int (1 : Int32)), .val (.long ky), .second, .val (.int mn), .val (.int len), .val (.ref ar), .val (.int (8 : Int32)), .val (.int pp), .val (.ref pe), .unset, .unset, .unset, .unset, .unset, .unset, .unset, .unset] [(.int (0 : Int32))]))
      refine k_istore X148 hx (L' := #[.val (.int x0), .val (.int x1), .val (.int x2), .val (.int x3), .val (.int nu), .val (.int sel), .val (.int (1 : Int32)), .val (.long ky), .second, .val (.int mn), .val (.int len), .val (.ref ar), .val (.int (8 : Int32)), .val (.int pp), .val (.ref pe), .val (.int (0 : Int32)), .unset, .unset, .unset, .unset, .unset, .unset, .unset]) (q := 392) rfl (hb hby at_390) rfl ?_
      refine k_new X148 hx hZ hown (hw _ (List.mem_of_getElem? (i := 12) rfl)) (hw _ (List.mem_of_getElem? (i := 13) rfl)) (hw _ (List.mem_of_getElem? (i := 14) rfl)) e148 (q := 395) rfl (hb hby at_392) (by decide) (by decide) ?_
      intro T149 h149 pb X149 e149 g149 E149 A149 D149
      have K149 := Keep.of_ext E149
      have F150 : Fld Z h149 pb "com/example/footwise/footwise/osm/Protobuf" "bytes" "[B" .null := D149 (Or.inr (hw _ (List.mem_of_getElem? (i := 25) rfl))) (ty := (.array .byte)) (by decide)
      have F151 : Fld Z h149 pb "com/example/footwise/footwise/osm/Protobuf" "position" "I" (.int (0 : Int32)) := D149 (Or.inl (hw _ (List.mem_of_getElem? (i := 27) rfl))) (ty := .int) (by decide)
      have F152 : Fld Z h149 pb "com/example/footwise/footwise/osm/Protobuf" "end" "I" (.int (0 : Int32)) := D149 (Or.inr (hw _ (List.mem_of_getElem? (i := 29) rfl))) (ty := .int) (by decide)
      have F153 : Fld Z h149 pb "com/example/footwise/footwise/osm/Protobuf" "field" "I" (.int (0 : Int32)) := D149 (Or.inl (hw _ (List.mem_of_getElem? (i := 41) rfl))) (ty := .int) (by decide)
      have F154 : Fld Z h149 pb "com/example/footwise/footwise/osm/Protobuf" "wireType" "I" (.int (0 : Int32)) := D149 (Or.inl (hw _ (List.mem_of_getElem? (i := 44) rfl))) (ty := .int) (by decide)
      refine k_dup X149 hx (q := 396) rfl (hb hby at_395) rfl ?_
      refine k_aload X149 hx (q := 398) rfl (hb hby at_396) rfl rfl ?_
      have Sz157 : n0 ≤ h119.size := Nat.le_trans Sz126 K119.1
      have Sz156 : n0 ≤ h125.size := Nat.le_trans Sz157 K125.1
      have Sz155 : n0 ≤ T147.heap.size := Nat.le_trans Sz156 K147.1
      have ge_pb : n0 ≤ pb := Nat.le_trans Sz155 (Nat.le_of_eq g149.symm)
      have ne_ar_pe : ar ≠ pe := Nat.ne_of_lt (Nat.lt_of_lt_of_le (Vg).lt (Nat.le_of_eq g119.symm))
      have G158 := ((((Vg.keep K119 nin0).keep K125 nin0).keep K147 (ninS ne_ar_pe nin0)).keep K149 nin0)
      refine k_callI X149 hx hZ (y := (⟨"com/example/footwise/footwise/osm/Protobuf", "<init>", "([B)V"⟩ : MethodName)) hown rfl (hw _ (List.mem_of_getElem? (i := 15) rfl)) (hw _ (List.mem_of_getElem? (i := 16) rfl)) (hw _ (List.mem_of_getElem? (i := 14) rfl)) (hw _ (List.mem_of_getElem? (i := 17) rfl)) (by decide) 1 e149 (rm3 l Z a0 hw pb ar h149 n0 ge_pb A149 F150 F151 F152 F153 F154 32 _ G158) (by decide) (by decide) (by decide) (by decide) (by rw [hml]; rfl) (a := pb) (as := [(.ref ar)]) (rest := [(.ref pb)]) pd_7 rfl (by first | exact Nat.le_refl _ | simp [Value.category]) (q := 401) rfl (hb hby at_398) ?_
      rintro _ T159 L159 X159 ⟨rfl, N159q, K159, P159⟩
      have N159 := Fr.app N148 N159q
      show End _ _ _ _ _ _ _ (T159.setTop (mkF m 401 #[.val (.int x0), .val (.int x1), .val (.int x2), .val (.int x3), .val (.int nu), .val (.int sel), .val (.int (1 : Int32)), .val (.long ky), .second, .val (.int mn), .val (.int len), .val (.ref ar), .val (.int (8 : Int32)), .val (.int pp), .val (.ref pe), .val (.int (0 : Int32)), .unset, .unset, .unset, .unset, .unset, .unset, .unset] [(.ref pb)]))
      have G160 := (((Vg.keep K119 nin0).keep K125 nin0).keep K147 (ninS ne_ar_pe nin0))
      have ne_ar_pb : ar ≠ pb := Nat.ne_of_lt (Nat.lt_of_lt_of_le (G160).lt (Nat.le_of_eq g149.symm))
      refine k_astore X159 hx (L' := #[.val (.int x0), .val (.int x1), .val (.int x2), .val (.int x3), .val (.int nu), .val (.int sel), .val (.int (1 : Int32)), .val (.long ky), .second, .val (.int mn), .val (.int len), .val (.ref ar), .val (.int (8 : Int32)), .val (.int pp), .val (.ref pe), .val (.int (0 : Int32)), .val (.ref pb), .unset, .unset, .unset, .unset, .unset, .unset]) (q := 403) rfl (hb hby at_401) rfl rfl ?_
      refine k_aload X159 hx (q := 405) rfl (hb hby at_403) rfl rfl ?_
      have G161 := (G158.keep K159 (ninS ne_ar_pb nin0))
      refine k_callV X159 hx hZ (y := (⟨"com/example/footwise/footwise/osm/Protobuf", "next", "()Z"⟩ : MethodName)) (z := (⟨"com/example/footwise/footwise/osm/Protobuf", "next", "()Z"⟩ : MethodName)) hown (hw _ (List.mem_of_getElem? (i := 30) rfl)) (hw _ (List.mem_of_getElem? (i := 31) rfl)) (notFace_of_selects (args := #[]) (mvT hZ (hw _ (List.mem_of_getElem? (i := 33) rfl)))) (hw _ (List.mem_of_getElem? (i := 33) rfl)) (hw _ (List.mem_of_getElem? (i := 32) rfl)) (hw _ (List.mem_of_getElem? (i := 34) rfl)) (hw _ (List.mem_of_getElem? (i := 14) rfl)) (by decide) P159.1 0 rfl (rm6 l Z a0 hw pb T159.heap n0 ge_pb ar 0 _ 0 0 P159 ne_ar_pb 0 32 ⟨by decide, by decide⟩ (own_nat (by decide)) (by decide) 32 (by decide) g G161 (n - 1) (by omega) hneg hnon (by omega) ky (by rw [show n - 1 + 1 = n by omega]; exact hraw) hf1 hf2) (by decide) (by decide) (by decide) (by decide) (by rw [hml]; rfl) (a := pb) (as := []) (rest := []) pd_8 rfl (by first | exact Nat.le_refl _ | simp [Value.category]) (q := 408) rfl (hb hby at_405) ?_
      rintro _ T162 L162 X162 ⟨rfl, N162q, K162, q1, hq1, P162⟩
      have N162 := Fr.app N159 N162q
      show End _ _ _ _ _ _ _ (T162.setTop (mkF m 408 #[.val (.int x0), .val (.int x1), .val (.int x2), .val (.int x3), .val (.int nu), .val (.int sel), .val (.int (1 : Int32)), .val (.long ky), .second, .val (.int mn), .val (.int len), .val (.ref ar), .val (.int (8 : Int32)), .val (.int pp), .val (.ref pe), .val (.int (0 : Int32)), .val (.ref pb), .unset, .unset, .unset, .unset, .unset, .unset] [(.int (1 : Int32))]))
      rw [hf3, hf4] at P162
      rw [show 0 + (n - 1) + 1 = n by omega] at hq1
      refine k_istore X162 hx (L' := #[.val (.int x0), .val (.int x1), .val (.int x2), .val (.int x3), .val (.int nu), .val (.int sel), .val (.int (1 : Int32)), .val (.long ky), .second, .val (.int mn), .val (.int len), .val (.ref ar), .val (.int (8 : Int32)), .val (.int pp), .val (.ref pe), .val (.int (0 : Int32)), .val (.ref pb), .val (.int (1 : Int32)), .unset, .unset, .unset, .unset, .unset]) (q := 410) rfl (hb hby at_408) rfl ?_
      refine k_aload X162 hx (q := 412) rfl (hb hby at_410) rfl rfl ?_
      refine k_callV X162 hx hZ (y := (⟨"com/example/footwise/footwise/osm/Protobuf", "field", "()I"⟩ : MethodName)) (z := (⟨"com/example/footwise/footwise/osm/Protobuf", "field", "()I"⟩ : MethodName)) hown (hw _ (List.mem_of_getElem? (i := 45) rfl)) (hw _ (List.mem_of_getElem? (i := 46) rfl)) (notFace_of_selects (args := #[]) (mvT hZ (hw _ (List.mem_of_getElem? (i := 48) rfl)))) (hw _ (List.mem_of_getElem? (i := 48) rfl)) (hw _ (List.mem_of_getElem? (i := 47) rfl)) (hw _ (List.mem_of_getElem? (i := 49) rfl)) (hw _ (List.mem_of_getElem? (i := 14) rfl)) (by decide) P162.1 0 rfl (rm8 l Z a0 hw pb T162.heap n0 nu P162.2.2.2.2.1) (by decide) (by decide) (by decide) (by decide) (by rw [hml]; rfl) (a := pb) (as := []) (rest := []) pd_3 rfl (by first | exact Nat.le_refl _ | simp [Value.category]) (q := 415) rfl (hb hby at_412) ?_
      rintro _ T163 L163 X163 ⟨rfl, N163q, e163⟩
      have N163 := Fr.app N162 N163q
      show End _ _ _ _ _ _ _ (T163.setTop (mkF m 415 #[.val (.int x0), .val (.int x1), .val (.int x2), .val (.int x3), .val (.int nu), .val (.int sel), .val (.int (1 : Int32)), .val (.long ky), .second, .val (.int mn), .val (.int len), .val (.ref ar), .val (.int (8 : Int32)), .val (.int pp), .val (.ref pe), .val (.int (0 : Int32)), .val (.ref pb), .val (.int (1 : Int32)), .unset, .unset, .unset, .unset, .unset] [(.int nu)]))
      refine k_istore X163 hx (L' := #[.val (.int x0), .val (.int x1), .val (.int x2), .val (.int x3), .val (.int nu), .val (.int sel), .val (.int (1 : Int32)), .val (.long ky), .second, .val (.int mn), .val (.int len), .val (.ref ar), .val (.int (8 : Int32)), .val (.int pp), .val (.ref pe), .val (.int (0 : Int32)), .val (.ref pb), .val (.int (1 : Int32)), .val (.int nu), .unset, .unset, .unset, .unset]) (q := 417) rfl (hb hby at_415) rfl ?_
      refine k_aload X163 hx (q := 419) rfl (hb hby at_417) rfl rfl ?_
      have G164 := (G161.keep K162 (ninS ne_ar_pb nin0))
      refine k_callV X163 hx hZ (y := (⟨"com/example/footwise/footwise/osm/Protobuf", "skip", "()V"⟩ : MethodName)) (z := (⟨"com/example/footwise/footwise/osm/Protobuf", "skip", "()V"⟩ : MethodName)) hown (hw _ (List.mem_of_getElem? (i := 50) rfl)) (hw _ (List.mem_of_getElem? (i := 51) rfl)) (notFace_of_selects (args := #[]) (mvT hZ (hw _ (List.mem_of_getElem? (i := 53) rfl)))) (hw _ (List.mem_of_getElem? (i := 53) rfl)) (hw _ (List.mem_of_getElem? (i := 52) rfl)) (hw _ (List.mem_of_getElem? (i := 54) rfl)) (hw _ (List.mem_of_getElem? (i := 14) rfl)) (by decide) P162.1 0 e163 (rm9e l Z a0 hw pb T162.heap n0 ge_pb ar q1 _ nu P162 ne_ar_pb n 32 hq1 (own_nat (by decide)) (by decide) (by omega)) (by decide) (by decide) (by decide) (by decide) (by rw [hml]; rfl) (a := pb) (as := []) (rest := []) pd_9 rfl (by first | exact Nat.le_refl _ | simp [Value.category]) (q := 422) rfl (hb hby at_419) ?_
      rintro _ T165 L165 X165 ⟨rfl, N165q, K165, q2, hq2, P165⟩
      have N165 := Fr.app N163 N165q
      show End _ _ _ _ _ _ _ (T165.setTop (mkF m 422 #[.val (.int x0), .val (.int x1), .val (.int x2), .val (.int x3), .val (.int nu), .val (.int sel), .val (.int (1 : Int32)), .val (.long ky), .second, .val (.int mn), .val (.int len), .val (.ref ar), .val (.int (8 : Int32)), .val (.int pp), .val (.ref pe), .val (.int (0 : Int32)), .val (.ref pb), .val (.int (1 : Int32)), .val (.int nu), .unset, .unset, .unset, .unset] []))
      have hq2' : Ix q2 (n + 8) := by
        have e : n + 8 = (n + 8) := by omega
        rw [← e]; exact hq2
      refine k_aload X165 hx (q := 424) rfl (hb hby at_422) rfl rfl ?_
      have G166 := (G164.keep K165 (ninS ne_ar_pb nin0))
      have hr10 : (own_raw g (n + 8) (0 + 1)).toInt = 10 := by rw [own_raw1, g_p']; decide
      obtain ⟨e1, e2, e3, e4⟩ := own_fields (k := own_raw g (n + 8) (0 + 1)) (nu := 1) (w := 2) (by rw [hr10]; decide) (by decide) (by decide) (by decide) (by decide)
      refine k_callV X165 hx hZ (y := (⟨"com/example/footwise/footwise/osm/Protobuf", "next", "()Z"⟩ : MethodName)) (z := (⟨"com/example/footwise/footwise/osm/Protobuf", "next", "()Z"⟩ : MethodName)) hown (hw _ (List.mem_of_getElem? (i := 30) rfl)) (hw _ (List.mem_of_getElem? (i := 31) rfl)) (notFace_of_selects (args := #[]) (mvT hZ (hw _ (List.mem_of_getElem? (i := 33) rfl)))) (hw _ (List.mem_of_getElem? (i := 33) rfl)) (hw _ (List.mem_of_getElem? (i := 32) rfl)) (hw _ (List.mem_of_getElem? (i := 34) rfl)) (hw _ (List.mem_of_getElem? (i := 14) rfl)) (by decide) P165.1 0 rfl (rm6 l Z a0 hw pb T165.heap n0 ge_pb ar q2 _ nu (1 : Int32) P165 ne_ar_pb (n + 8) 32 hq2' (own_nat (by decide)) (by decide) 32 (by decide) g G166 0 (by decide) (fun t ht => by omega) (by rw [Nat.add_zero, Int32.lt_iff_toInt_lt, g_p']; decide) (by omega) _ rfl e1 e2) (by decide) (by decide) (by decide) (by decide) (by rw [hml]; rfl) (a := pb) (as := []) (rest := []) pd_8 rfl (by first | exact Nat.le_refl _ | simp [Value.category]) (q := 427) rfl (hb hby at_424) ?_
      rintro _ T167 L167 X167 ⟨rfl, N167q, K167, q3, hq3, P167⟩
      have N167 := Fr.app N165 N167q
      show End _ _ _ _ _ _ _ (T167.setTop (mkF m 427 #[.val (.int x0), .val (.int x1), .val (.int x2), .val (.int x3), .val (.int nu), .val (.int sel), .val (.int (1 : Int32)), .val (.long ky), .second, .val (.int mn), .val (.int len), .val (.ref ar), .val (.int (8 : Int32)), .val (.int pp), .val (.ref pe), .val (.int (0 : Int32)), .val (.ref pb), .val (.int (1 : Int32)), .val (.int nu), .unset, .unset, .unset, .unset] [(.int (1 : Int32))]))
      rw [e3, e4] at P167
      refine k_istore X167 hx (L' := #[.val (.int x0), .val (.int x1), .val (.int x2), .val (.int x3), .val (.int nu), .val (.int sel), .val (.int (1 : Int32)), .val (.long ky), .second, .val (.int mn), .val (.int len), .val (.ref ar), .val (.int (8 : Int32)), .val (.int pp), .val (.ref pe), .val (.int (0 : Int32)), .val (.ref pb), .val (.int (1 : Int32)), .val (.int nu), .val (.int (1 : Int32)), .unset, .unset, .unset]) (q := 429) rfl (hb hby at_427) rfl ?_
      refine k_aload X167 hx (q := 431) rfl (hb hby at_429) rfl rfl ?_
      refine k_callV X167 hx hZ (y := (⟨"com/example/footwise/footwise/osm/Protobuf", "field", "()I"⟩ : MethodName)) (z := (⟨"com/example/footwise/footwise/osm/Protobuf", "field", "()I"⟩ : MethodName)) hown (hw _ (List.mem_of_getElem? (i := 45) rfl)) (hw _ (List.mem_of_getElem? (i := 46) rfl)) (notFace_of_selects (args := #[]) (mvT hZ (hw _ (List.mem_of_getElem? (i := 48) rfl)))) (hw _ (List.mem_of_getElem? (i := 48) rfl)) (hw _ (List.mem_of_getElem? (i := 47) rfl)) (hw _ (List.mem_of_getElem? (i := 49) rfl)) (hw _ (List.mem_of_getElem? (i := 14) rfl)) (by decide) P167.1 0 rfl (rm8 l Z a0 hw pb T167.heap n0 1 P167.2.2.2.2.1) (by decide) (by decide) (by decide) (by decide) (by rw [hml]; rfl) (a := pb) (as := []) (rest := []) pd_3 rfl (by first | exact Nat.le_refl _ | simp [Value.category]) (q := 434) rfl (hb hby at_431) ?_
      rintro _ T168 L168 X168 ⟨rfl, N168q, e168⟩
      have N168 := Fr.app N167 N168q
      show End _ _ _ _ _ _ _ (T168.setTop (mkF m 434 #[.val (.int x0), .val (.int x1), .val (.int x2), .val (.int x3), .val (.int nu), .val (.int sel), .val (.int (1 : Int32)), .val (.long ky), .second, .val (.int mn), .val (.int len), .val (.ref ar), .val (.int (8 : Int32)), .val (.int pp), .val (.ref pe), .val (.int (0 : Int32)), .val (.ref pb), .val (.int (1 : Int32)), .val (.int nu), .val (.int (1 : Int32)), .unset, .unset, .unset] [(.int (1 : Int32))]))
      refine k_istore X168 hx (L' := #[.val (.int x0), .val (.int x1), .val (.int x2), .val (.int x3), .val (.int nu), .val (.int sel), .val (.int (1 : Int32)), .val (.long ky), .second, .val (.int mn), .val (.int len), .val (.ref ar), .val (.int (8 : Int32)), .val (.int pp), .val (.ref pe), .val (.int (0 : Int32)), .val (.ref pb), .val (.int (1 : Int32)), .val (.int nu), .val (.int (1 : Int32)), .val (.int (1 : Int32)), .unset, .unset]) (q := 436) rfl (hb hby at_434) rfl ?_
      refine k_aload X168 hx (q := 438) rfl (hb hby at_436) rfl rfl ?_
      have G169 := (G166.keep K167 (ninS ne_ar_pb nin0))
      have hrl : (own_raw g ((n + 8) + 0 + 1) (0 + 1)).toInt = ((30 - (n + 8) : Nat) : Int) := by
        rw [own_raw1, show ((n + 8) + 0 + 1) = (n + 8) + 1 by omega, g_p1']; omega
      refine k_callV X168 hx hZ (y := (⟨"com/example/footwise/footwise/osm/Protobuf", "skip", "()V"⟩ : MethodName)) (z := (⟨"com/example/footwise/footwise/osm/Protobuf", "skip", "()V"⟩ : MethodName)) hown (hw _ (List.mem_of_getElem? (i := 50) rfl)) (hw _ (List.mem_of_getElem? (i := 51) rfl)) (notFace_of_selects (args := #[]) (mvT hZ (hw _ (List.mem_of_getElem? (i := 53) rfl)))) (hw _ (List.mem_of_getElem? (i := 53) rfl)) (hw _ (List.mem_of_getElem? (i := 52) rfl)) (hw _ (List.mem_of_getElem? (i := 54) rfl)) (hw _ (List.mem_of_getElem? (i := 14) rfl)) (by decide) P167.1 0 e168 (rm9l l Z a0 hw pb T167.heap n0 ge_pb ar q3 _ 1 P167 ne_ar_pb ((n + 8) + 0 + 1) 32 hq3 (own_nat (by decide)) (by decide) 32 (by decide) g G169 0 (by decide) (fun t ht => by omega) (by rw [Nat.add_zero, show ((n + 8) + 0 + 1) = (n + 8) + 1 by omega, Int32.lt_iff_toInt_lt, g_p1']; have := own_z0; omega) (by omega) (30 - (n + 8)) hrl (by omega)) (by decide) (by decide) (by decide) (by decide) (by rw [hml]; rfl) (a := pb) (as := []) (rest := []) pd_9 rfl (by first | exact Nat.le_refl _ | simp [Value.category]) (q := 441) rfl (hb hby at_438) ?_
      rintro _ T170 L170 X170 ⟨rfl, N170q, K170, q4, hq4, P170⟩
      have N170 := Fr.app N168 N170q
      show End _ _ _ _ _ _ _ (T170.setTop (mkF m 441 #[.val (.int x0), .val (.int x1), .val (.int x2), .val (.int x3), .val (.int nu), .val (.int sel), .val (.int (1 : Int32)), .val (.long ky), .second, .val (.int mn), .val (.int len), .val (.ref ar), .val (.int (8 : Int32)), .val (.int pp), .val (.ref pe), .val (.int (0 : Int32)), .val (.ref pb), .val (.int (1 : Int32)), .val (.int nu), .val (.int (1 : Int32)), .val (.int (1 : Int32)), .unset, .unset] []))
      refine k_aload X170 hx (q := 443) rfl (hb hby at_441) rfl rfl ?_
      refine k_callV X170 hx hZ (y := (⟨"com/example/footwise/footwise/osm/Protobuf", "next", "()Z"⟩ : MethodName)) (z := (⟨"com/example/footwise/footwise/osm/Protobuf", "next", "()Z"⟩ : MethodName)) hown (hw _ (List.mem_of_getElem? (i := 30) rfl)) (hw _ (List.mem_of_getElem? (i := 31) rfl)) (notFace_of_selects (args := #[]) (mvT hZ (hw _ (List.mem_of_getElem? (i := 33) rfl)))) (hw _ (List.mem_of_getElem? (i := 33) rfl)) (hw _ (List.mem_of_getElem? (i := 32) rfl)) (hw _ (List.mem_of_getElem? (i := 34) rfl)) (hw _ (List.mem_of_getElem? (i := 14) rfl)) (by decide) P170.1 0 rfl (rm6e l Z a0 hw pb T170.heap n0 ge_pb ar q4 _ 1 2 P170 ne_ar_pb _ 32 hq4 (own_nat (by decide)) (by decide) (by omega)) (by decide) (by decide) (by decide) (by decide) (by rw [hml]; rfl) (a := pb) (as := []) (rest := []) pd_8 rfl (by first | exact Nat.le_refl _ | simp [Value.category]) (q := 446) rfl (hb hby at_443) ?_
      rintro _ T171 L171 X171 ⟨rfl, N171q, e171⟩
      have N171 := Fr.app N170 N171q
      show End _ _ _ _ _ _ _ (T171.setTop (mkF m 446 #[.val (.int x0), .val (.int x1), .val (.int x2), .val (.int x3), .val (.int nu), .val (.int sel), .val (.int (1 : Int32)), .val (.long ky), .second, .val (.int mn), .val (.int len), .val (.ref ar), .val (.int (8 : Int32)), .val (.int pp), .val (.ref pe), .val (.int (0 : Int32)), .val (.ref pb), .val (.int (1 : Int32)), .val (.int nu), .val (.int (1 : Int32)), .val (.int (1 : Int32)), .unset, .unset] [(.int (0 : Int32))]))
      refine k_istore X171 hx (L' := #[.val (.int x0), .val (.int x1), .val (.int x2), .val (.int x3), .val (.int nu), .val (.int sel), .val (.int (1 : Int32)), .val (.long ky), .second, .val (.int mn), .val (.int len), .val (.ref ar), .val (.int (8 : Int32)), .val (.int pp), .val (.ref pe), .val (.int (0 : Int32)), .val (.ref pb), .val (.int (1 : Int32)), .val (.int nu), .val (.int (1 : Int32)), .val (.int (1 : Int32)), .val (.int (0 : Int32)), .unset]) (q := 448) rfl (hb hby at_446) rfl ?_
      refine k_aload X171 hx (q := 450) rfl (hb hby at_448) rfl rfl ?_
      refine k_callV X171 hx hZ (y := (⟨"com/example/footwise/footwise/osm/Protobuf", "field", "()I"⟩ : MethodName)) (z := (⟨"com/example/footwise/footwise/osm/Protobuf", "field", "()I"⟩ : MethodName)) hown (hw _ (List.mem_of_getElem? (i := 45) rfl)) (hw _ (List.mem_of_getElem? (i := 46) rfl)) (notFace_of_selects (args := #[]) (mvT hZ (hw _ (List.mem_of_getElem? (i := 48) rfl)))) (hw _ (List.mem_of_getElem? (i := 48) rfl)) (hw _ (List.mem_of_getElem? (i := 47) rfl)) (hw _ (List.mem_of_getElem? (i := 49) rfl)) (hw _ (List.mem_of_getElem? (i := 14) rfl)) (by decide) P170.1 0 e171 (rm8 l Z a0 hw pb T170.heap n0 1 P170.2.2.2.2.1) (by decide) (by decide) (by decide) (by decide) (by rw [hml]; rfl) (a := pb) (as := []) (rest := []) pd_3 rfl (by first | exact Nat.le_refl _ | simp [Value.category]) (q := 453) rfl (hb hby at_450) ?_
      rintro _ T172 L172 X172 ⟨rfl, N172q, e172⟩
      have N172 := Fr.app N171 N172q
      show End _ _ _ _ _ _ _ (T172.setTop (mkF m 453 #[.val (.int x0), .val (.int x1), .val (.int x2), .val (.int x3), .val (.int nu), .val (.int sel), .val (.int (1 : Int32)), .val (.long ky), .second, .val (.int mn), .val (.int len), .val (.ref ar), .val (.int (8 : Int32)), .val (.int pp), .val (.ref pe), .val (.int (0 : Int32)), .val (.ref pb), .val (.int (1 : Int32)), .val (.int nu), .val (.int (1 : Int32)), .val (.int (1 : Int32)), .val (.int (0 : Int32)), .unset] [(.int (1 : Int32))]))
      refine k_istore X172 hx (L' := #[.val (.int x0), .val (.int x1), .val (.int x2), .val (.int x3), .val (.int nu), .val (.int sel), .val (.int (1 : Int32)), .val (.long ky), .second, .val (.int mn), .val (.int len), .val (.ref ar), .val (.int (8 : Int32)), .val (.int pp), .val (.ref pe), .val (.int (0 : Int32)), .val (.ref pb), .val (.int (1 : Int32)), .val (.int nu), .val (.int (1 : Int32)), .val (.int (1 : Int32)), .val (.int (0 : Int32)), .val (.int (1 : Int32))]) (q := 455) rfl (hb hby at_453) rfl ?_
      refine k_iload X172 hx (q := 457) rfl (hb hby at_455) rfl ?_
      refine k_if_ne X172 hx (q1 := 498) (q := 460) (by decide) (by decide) rfl (hb hby at_457) (fun hc => absurd rfl hc) (fun _ => ?_)
      refine k_iload X172 hx (q := 462) rfl (hb hby at_460) rfl ?_
      refine k_if_eq X172 hx (q1 := 498) (q := 465) (by decide) (by decide) rfl (hb hby at_462) (fun hc => absurd hc (by decide)) (fun _ => ?_)
      refine k_iload X172 hx (q := 467) rfl (hb hby at_465) rfl ?_
      refine k_iload X172 hx (q := 469) rfl (hb hby at_467) rfl ?_
      refine k_icmp_ne X172 hx (q1 := 498) (q := 472) (by decide) (by decide) rfl (hb hby at_469) (fun hc => absurd rfl hc) (fun _ => ?_)
      refine k_iload X172 hx (q := 474) rfl (hb hby at_472) rfl ?_
      refine k_if_eq X172 hx (q1 := 498) (q := 477) (by decide) (by decide) rfl (hb hby at_474) (fun hc => absurd hc (by decide)) (fun _ => ?_)
      refine k_iload X172 hx (q := 479) rfl (hb hby at_477) rfl ?_
      refine k_iconst X172 hx (v := (1 : Int32)) rfl (q := 480) rfl (hb hby at_479) ?_
      refine k_icmp_ne X172 hx (q1 := 498) (q := 483) (by decide) (by decide) rfl (hb hby at_480) (fun hc => absurd rfl hc) (fun _ => ?_)
      refine k_iload X172 hx (q := 485) rfl (hb hby at_483) rfl ?_
      refine k_if_ne X172 hx (q1 := 498) (q := 488) (by decide) (by decide) rfl (hb hby at_485) (fun hc => absurd rfl hc) (fun _ => ?_)
      refine k_iload X172 hx (q := 490) rfl (hb hby at_488) rfl ?_
      refine k_iconst X172 hx (v := (1 : Int32)) rfl (q := 491) rfl (hb hby at_490) ?_
      refine k_icmp_ne X172 hx (q1 := 498) (q := 494) (by decide) (by decide) rfl (hb hby at_491) (fun hc => absurd rfl hc) (fun _ => ?_)
      refine k_iconst X172 hx (v := (1 : Int32)) rfl (q := 495) rfl (hb hby at_494) ?_
      refine k_goto X172 hx (q := 499) (by decide) (by decide) (hb hby at_495) ?_
      exact k_retN X172 hx (t := .boolean) hlk (by decide) (by decide) hret (by simp) (hb hby at_499) ⟨rfl, N172⟩
  · refine k_iconst X0 hx (v := (0 : Int32)) rfl (q := 22) rfl (hb hby at_21) ?_
    refine k_goto X0 hx (q := 46) (by decide) (by decide) (hb hby at_22) ?_
    refine k_istore X0 hx (L' := #[.val (.int x0), .val (.int x1), .val (.int x2), .val (.int x3), .val (.int nu), .val (.int sel), .val (.int (0 : Int32)), .unset, .unset, .unset, .unset, .unset, .unset, .unset, .unset, .unset, .unset, .unset, .unset, .unset, .unset, .unset, .unset]) (q := 48) rfl (hb hby at_46) rfl ?_
    refine k_iload X0 hx (q := 50) rfl (hb hby at_48) rfl ?_
    refine k_i2l X0 hx (q := 51) rfl (hb hby at_50) ?_
    refine k_iconst X0 hx (v := (3 : Int32)) rfl (q := 52) rfl (hb hby at_51) ?_
    refine k_lshl X0 hx (q := 53) rfl (hb hby at_52) ?_
    refine k_iload X0 hx (q := 55) rfl (hb hby at_53) rfl ?_
    refine k_i2l X0 hx (q := 56) rfl (hb hby at_55) ?_
    refine k_lor X0 hx (q := 57) rfl (hb hby at_56) ?_
    refine k_lstore X0 hx (L' := #[.val (.int x0), .val (.int x1), .val (.int x2), .val (.int x3), .val (.int nu), .val (.int sel), .val (.int (0 : Int32)), .val (.long ((nu.toInt64 <<< ((3 : Int32) &&& 0x3f).toInt64) ||| (0 : Int32).toInt64)), .second, .unset, .unset, .unset, .unset, .unset, .unset, .unset, .unset, .unset, .unset, .unset, .unset, .unset, .unset]) (q := 59) rfl (hb hby at_57) rfl ?_
    have hky := own_key hnu1 hnu2 (0 : Int32) 0 (by decide) (by decide) (by decide)
    generalize hk0 : ((nu.toInt64 <<< ((3 : Int32) &&& 0x3f).toInt64) ||| (0 : Int32).toInt64) = ky
    rw [hk0] at hky
    refine k_lload X0 hx (q := 61) rfl (hb hby at_59) rfl ?_
    refine k_callS X0 hx hZ (y := (⟨"com/example/footwise/footwise/osm/ProtobufNextPinLaw", "minLen", "(J)I"⟩ : MethodName)) hown (hw _ (List.mem_of_getElem? (i := 2) rfl)) (hw _ (List.mem_of_getElem? (i := 3) rfl)) (hw _ (List.mem_of_getElem? (i := 4) rfl)) (hw _ (List.mem_of_getElem? (i := 5) rfl)) (by decide) 0 e0 (rm1 l Z a0 hw ky h0 n0) (by decide) (by decide) (by decide) (by decide) (by rw [hml]; rfl) (as := [(.long ky)]) (rest := []) pd_5 rfl (by first | exact Nat.le_refl _ | simp [Value.category]) (q := 64) rfl (hb hby at_61) ?_
    rintro _ T2 L2 X2 ⟨rfl, N2q, e2⟩
    have N2 := Fr.app N0 N2q
    show End _ _ _ _ _ _ _ (T2.setTop (mkF m 64 #[.val (.int x0), .val (.int x1), .val (.int x2), .val (.int x3), .val (.int nu), .val (.int sel), .val (.int (0 : Int32)), .val (.long ky), .second, .unset, .unset, .unset, .unset, .unset, .unset, .unset, .unset, .unset, .unset, .unset, .unset, .unset, .unset] [(.int (f1 ky))]))
    obtain ⟨m', hm1, hm5, hmn, hmk⟩ := own_mn (k := ky) (by omega)
    refine k_istore X2 hx (L' := #[.val (.int x0), .val (.int x1), .val (.int x2), .val (.int x3), .val (.int nu), .val (.int sel), .val (.int (0 : Int32)), .val (.long ky), .second, .val (.int (f1 ky)), .unset, .unset, .unset, .unset, .unset, .unset, .unset, .unset, .unset, .unset, .unset, .unset, .unset]) (q := 66) rfl (hb hby at_64) rfl ?_
    generalize hmn0 : (f1 ky) = mn
    rw [hmn0] at hmn
    obtain ⟨hnz, n, hmn', hn10, hlen⟩ := own_len x3 hmn hm1 hm5
    refine k_iload X2 hx (q := 68) rfl (hb hby at_66) rfl ?_
    refine k_iloadN X2 hx (q := 69) rfl (hb hby at_68) rfl ?_
    refine k_ldcI X2 hx hZ (v := (2147483647 : Int32)) hown (hw _ (List.mem_of_getElem? (i := 0) rfl)) (q := 71) rfl (hb hby at_69) ?_
    refine k_iand X2 hx (q := 72) rfl (hb hby at_71) ?_
    refine k_bipush X2 hx (v := (11 : Int32)) rfl (q := 74) rfl (hb hby at_72) ?_
    refine k_iload X2 hx (q := 76) rfl (hb hby at_74) rfl ?_
    refine k_isub X2 hx (q := 77) rfl (hb hby at_76) ?_
    refine k_irem X2 hx (q := 78) rfl (hb hby at_77) hnz ?_
    refine k_iadd X2 hx (q := 79) rfl (hb hby at_78) ?_
    refine k_istore X2 hx (L' := #[.val (.int x0), .val (.int x1), .val (.int x2), .val (.int x3), .val (.int nu), .val (.int sel), .val (.int (0 : Int32)), .val (.long ky), .second, .val (.int mn), .val (.int (mn + ((x3 &&& (2147483647 : Int32)) % ((11 : Int32) - mn)))), .unset, .unset, .unset, .unset, .unset, .unset, .unset, .unset, .unset, .unset, .unset, .unset]) (q := 81) rfl (hb hby at_79) rfl ?_
    generalize hln : (mn + ((x3 &&& (2147483647 : Int32)) % ((11 : Int32) - mn))) = len
    rw [hln] at hlen
    refine k_bipush X2 hx (v := (32 : Int32)) rfl (q := 83) rfl (hb hby at_81) ?_
    refine k_newP X2 hx hZ (hw _ (List.mem_of_getElem? (i := 7) rfl)) e2 (q := 85) rfl (hb hby at_83) (by decide) (cap := 32) (by decide) (by decide) (by decide) (by decide) ?_
    intro T3 h3 ar k3 X3 e3 g3 E3 A3
    have K3 := Keep.of_ext E3
    have V3 : Ary Z h3 ar .byte 32 (fun _ => .int (0 : Int32)) := Ary.new A3 (by decide) rfl
    refine k_astore X3 hx (L' := #[.val (.int x0), .val (.int x1), .val (.int x2), .val (.int x3), .val (.int nu), .val (.int sel), .val (.int (0 : Int32)), .val (.long ky), .second, .val (.int mn), .val (.int len), .val (.ref ar), .unset, .unset, .unset, .unset, .unset, .unset, .unset, .unset, .unset, .unset, .unset]) (q := 87) rfl (hb hby at_85) rfl rfl ?_
    refine k_aload X3 hx (q := 89) rfl (hb hby at_87) rfl rfl ?_
    refine k_iconst X3 hx (v := (0 : Int32)) rfl (q := 90) rfl (hb hby at_89) ?_
    refine k_lload X3 hx (q := 92) rfl (hb hby at_90) rfl ?_
    refine k_iconst X3 hx (v := (0 : Int32)) rfl (q := 93) rfl (hb hby at_92) ?_
    refine k_iload X3 hx (q := 95) rfl (hb hby at_93) rfl ?_
    refine k_callS X3 hx hZ (y := (⟨"com/example/footwise/footwise/osm/ProtobufNextPinLaw", "enc", "(JII)B"⟩ : MethodName)) hown (hw _ (List.mem_of_getElem? (i := 8) rfl)) (hw _ (List.mem_of_getElem? (i := 9) rfl)) (hw _ (List.mem_of_getElem? (i := 4) rfl)) (hw _ (List.mem_of_getElem? (i := 10) rfl)) (by decide) 2 e3 (rm2 l Z a0 hw ky (0 : Int32) len h3 n0) (by decide) (by decide) (by decide) (by decide) (by rw [hml]; rfl) (as := [(.long ky), (.int (0 : Int32)), (.int len)]) (rest := [(.int (0 : Int32)), (.ref ar)]) pd_6 rfl (by first | exact Nat.le_refl _ | simp [Value.category]) (q := 98) rfl (hb hby at_95) ?_
    rintro _ T4 L4 X4 ⟨rfl, N4q, e4⟩
    have N4 := Fr.app N2 N4q
    show End _ _ _ _ _ _ _ (T4.setTop (mkF m 98 #[.val (.int x0), .val (.int x1), .val (.int x2), .val (.int x3), .val (.int nu), .val (.int sel), .val (.int (0 : Int32)), .val (.long ky), .second, .val (.int mn), .val (.int len), .val (.ref ar), .unset, .unset, .unset, .unset, .unset, .unset, .unset, .unset, .unset, .unset, .unset] [(.int (f2 ky (0 : Int32) len)), (.int (0 : Int32)), (.ref ar)]))
    have ge_ar : n0 ≤ ar := Nat.le_trans Z0 (Nat.le_of_eq g3.symm)
    refine k_asB X4 hx hZ e4 0 (q := 99) rfl (hb hby at_98) V3 ⟨by decide, by decide⟩ (by decide) ?_
    intro T5 h5 X5 e5 W5 V5
    have K5 := Keep.of_wr W5
    have N5 := Fr.snoc X5 N4 ge_ar
    refine k_aload X5 hx (q := 101) rfl (hb hby at_99) rfl rfl ?_
    refine k_iconst X5 hx (v := (1 : Int32)) rfl (q := 102) rfl (hb hby at_101) ?_
    refine k_lload X5 hx (q := 104) rfl (hb hby at_102) rfl ?_
    refine k_iconst X5 hx (v := (1 : Int32)) rfl (q := 105) rfl (hb hby at_104) ?_
    refine k_iload X5 hx (q := 107) rfl (hb hby at_105) rfl ?_
    refine k_callS X5 hx hZ (y := (⟨"com/example/footwise/footwise/osm/ProtobufNextPinLaw", "enc", "(JII)B"⟩ : MethodName)) hown (hw _ (List.mem_of_getElem? (i := 8) rfl)) (hw _ (List.mem_of_getElem? (i := 9) rfl)) (hw _ (List.mem_of_getElem? (i := 4) rfl)) (hw _ (List.mem_of_getElem? (i := 10) rfl)) (by decide) 2 e5 (rm2 l Z a0 hw ky (1 : Int32) len h5 n0) (by decide) (by decide) (by decide) (by decide) (by rw [hml]; rfl) (as := [(.long ky), (.int (1 : Int32)), (.int len)]) (rest := [(.int (1 : Int32)), (.ref ar)]) pd_6 rfl (by first | exact Nat.le_refl _ | simp [Value.category]) (q := 110) rfl (hb hby at_107) ?_
    rintro _ T6 L6 X6 ⟨rfl, N6q, e6⟩
    have N6 := Fr.app N5 N6q
    show End _ _ _ _ _ _ _ (T6.setTop (mkF m 110 #[.val (.int x0), .val (.int x1), .val (.int x2), .val (.int x3), .val (.int nu), .val (.int sel), .val (.int (0 : Int32)), .val (.long ky), .second, .val (.int mn), .val (.int len), .val (.ref ar), .unset, .unset, .unset, .unset, .unset, .unset, .unset, .unset, .unset, .unset, .unset] [(.int (f2 ky (1 : Int32) len)), (.int (1 : Int32)), (.ref ar)]))
    refine k_asB X6 hx hZ e6 1 (q := 111) rfl (hb hby at_110) V5 ⟨by decide, by decide⟩ (by decide) ?_
    intro T7 h7 X7 e7 W7 V7
    have K7 := Keep.of_wr W7
    have N7 := Fr.snoc X7 N6 ge_ar
    refine k_aload X7 hx (q := 113) rfl (hb hby at_111) rfl rfl ?_
    refine k_iconst X7 hx (v := (2 : Int32)) rfl (q := 114) rfl (hb hby at_113) ?_
    refine k_lload X7 hx (q := 116) rfl (hb hby at_114) rfl ?_
    refine k_iconst X7 hx (v := (2 : Int32)) rfl (q := 117) rfl (hb hby at_116) ?_
    refine k_iload X7 hx (q := 119) rfl (hb hby at_117) rfl ?_
    refine k_callS X7 hx hZ (y := (⟨"com/example/footwise/footwise/osm/ProtobufNextPinLaw", "enc", "(JII)B"⟩ : MethodName)) hown (hw _ (List.mem_of_getElem? (i := 8) rfl)) (hw _ (List.mem_of_getElem? (i := 9) rfl)) (hw _ (List.mem_of_getElem? (i := 4) rfl)) (hw _ (List.mem_of_getElem? (i := 10) rfl)) (by decide) 2 e7 (rm2 l Z a0 hw ky (2 : Int32) len h7 n0) (by decide) (by decide) (by decide) (by decide) (by rw [hml]; rfl) (as := [(.long ky), (.int (2 : Int32)), (.int len)]) (rest := [(.int (2 : Int32)), (.ref ar)]) pd_6 rfl (by first | exact Nat.le_refl _ | simp [Value.category]) (q := 122) rfl (hb hby at_119) ?_
    rintro _ T8 L8 X8 ⟨rfl, N8q, e8⟩
    have N8 := Fr.app N7 N8q
    show End _ _ _ _ _ _ _ (T8.setTop (mkF m 122 #[.val (.int x0), .val (.int x1), .val (.int x2), .val (.int x3), .val (.int nu), .val (.int sel), .val (.int (0 : Int32)), .val (.long ky), .second, .val (.int mn), .val (.int len), .val (.ref ar), .unset, .unset, .unset, .unset, .unset, .unset, .unset, .unset, .unset, .unset, .unset] [(.int (f2 ky (2 : Int32) len)), (.int (2 : Int32)), (.ref ar)]))
    refine k_asB X8 hx hZ e8 2 (q := 123) rfl (hb hby at_122) V7 ⟨by decide, by decide⟩ (by decide) ?_
    intro T9 h9 X9 e9 W9 V9
    have K9 := Keep.of_wr W9
    have N9 := Fr.snoc X9 N8 ge_ar
    refine k_aload X9 hx (q := 125) rfl (hb hby at_123) rfl rfl ?_
    refine k_iconst X9 hx (v := (3 : Int32)) rfl (q := 126) rfl (hb hby at_125) ?_
    refine k_lload X9 hx (q := 128) rfl (hb hby at_126) rfl ?_
    refine k_iconst X9 hx (v := (3 : Int32)) rfl (q := 129) rfl (hb hby at_128) ?_
    refine k_iload X9 hx (q := 131) rfl (hb hby at_129) rfl ?_
    refine k_callS X9 hx hZ (y := (⟨"com/example/footwise/footwise/osm/ProtobufNextPinLaw", "enc", "(JII)B"⟩ : MethodName)) hown (hw _ (List.mem_of_getElem? (i := 8) rfl)) (hw _ (List.mem_of_getElem? (i := 9) rfl)) (hw _ (List.mem_of_getElem? (i := 4) rfl)) (hw _ (List.mem_of_getElem? (i := 10) rfl)) (by decide) 2 e9 (rm2 l Z a0 hw ky (3 : Int32) len h9 n0) (by decide) (by decide) (by decide) (by decide) (by rw [hml]; rfl) (as := [(.long ky), (.int (3 : Int32)), (.int len)]) (rest := [(.int (3 : Int32)), (.ref ar)]) pd_6 rfl (by first | exact Nat.le_refl _ | simp [Value.category]) (q := 134) rfl (hb hby at_131) ?_
    rintro _ T10 L10 X10 ⟨rfl, N10q, e10⟩
    have N10 := Fr.app N9 N10q
    show End _ _ _ _ _ _ _ (T10.setTop (mkF m 134 #[.val (.int x0), .val (.int x1), .val (.int x2), .val (.int x3), .val (.int nu), .val (.int sel), .val (.int (0 : Int32)), .val (.long ky), .second, .val (.int mn), .val (.int len), .val (.ref ar), .unset, .unset, .unset, .unset, .unset, .unset, .unset, .unset, .unset, .unset, .unset] [(.int (f2 ky (3 : Int32) len)), (.int (3 : Int32)), (.ref ar)]))
    refine k_asB X10 hx hZ e10 3 (q := 135) rfl (hb hby at_134) V9 ⟨by decide, by decide⟩ (by decide) ?_
    intro T11 h11 X11 e11 W11 V11
    have K11 := Keep.of_wr W11
    have N11 := Fr.snoc X11 N10 ge_ar
    refine k_aload X11 hx (q := 137) rfl (hb hby at_135) rfl rfl ?_
    refine k_iconst X11 hx (v := (4 : Int32)) rfl (q := 138) rfl (hb hby at_137) ?_
    refine k_lload X11 hx (q := 140) rfl (hb hby at_138) rfl ?_
    refine k_iconst X11 hx (v := (4 : Int32)) rfl (q := 141) rfl (hb hby at_140) ?_
    refine k_iload X11 hx (q := 143) rfl (hb hby at_141) rfl ?_
    refine k_callS X11 hx hZ (y := (⟨"com/example/footwise/footwise/osm/ProtobufNextPinLaw", "enc", "(JII)B"⟩ : MethodName)) hown (hw _ (List.mem_of_getElem? (i := 8) rfl)) (hw _ (List.mem_of_getElem? (i := 9) rfl)) (hw _ (List.mem_of_getElem? (i := 4) rfl)) (hw _ (List.mem_of_getElem? (i := 10) rfl)) (by decide) 2 e11 (rm2 l Z a0 hw ky (4 : Int32) len h11 n0) (by decide) (by decide) (by decide) (by decide) (by rw [hml]; rfl) (as := [(.long ky), (.int (4 : Int32)), (.int len)]) (rest := [(.int (4 : Int32)), (.ref ar)]) pd_6 rfl (by first | exact Nat.le_refl _ | simp [Value.category]) (q := 146) rfl (hb hby at_143) ?_
    rintro _ T12 L12 X12 ⟨rfl, N12q, e12⟩
    have N12 := Fr.app N11 N12q
    show End _ _ _ _ _ _ _ (T12.setTop (mkF m 146 #[.val (.int x0), .val (.int x1), .val (.int x2), .val (.int x3), .val (.int nu), .val (.int sel), .val (.int (0 : Int32)), .val (.long ky), .second, .val (.int mn), .val (.int len), .val (.ref ar), .unset, .unset, .unset, .unset, .unset, .unset, .unset, .unset, .unset, .unset, .unset] [(.int (f2 ky (4 : Int32) len)), (.int (4 : Int32)), (.ref ar)]))
    refine k_asB X12 hx hZ e12 4 (q := 147) rfl (hb hby at_146) V11 ⟨by decide, by decide⟩ (by decide) ?_
    intro T13 h13 X13 e13 W13 V13
    have K13 := Keep.of_wr W13
    have N13 := Fr.snoc X13 N12 ge_ar
    refine k_aload X13 hx (q := 149) rfl (hb hby at_147) rfl rfl ?_
    refine k_iconst X13 hx (v := (5 : Int32)) rfl (q := 150) rfl (hb hby at_149) ?_
    refine k_lload X13 hx (q := 152) rfl (hb hby at_150) rfl ?_
    refine k_iconst X13 hx (v := (5 : Int32)) rfl (q := 153) rfl (hb hby at_152) ?_
    refine k_iload X13 hx (q := 155) rfl (hb hby at_153) rfl ?_
    refine k_callS X13 hx hZ (y := (⟨"com/example/footwise/footwise/osm/ProtobufNextPinLaw", "enc", "(JII)B"⟩ : MethodName)) hown (hw _ (List.mem_of_getElem? (i := 8) rfl)) (hw _ (List.mem_of_getElem? (i := 9) rfl)) (hw _ (List.mem_of_getElem? (i := 4) rfl)) (hw _ (List.mem_of_getElem? (i := 10) rfl)) (by decide) 2 e13 (rm2 l Z a0 hw ky (5 : Int32) len h13 n0) (by decide) (by decide) (by decide) (by decide) (by rw [hml]; rfl) (as := [(.long ky), (.int (5 : Int32)), (.int len)]) (rest := [(.int (5 : Int32)), (.ref ar)]) pd_6 rfl (by first | exact Nat.le_refl _ | simp [Value.category]) (q := 158) rfl (hb hby at_155) ?_
    rintro _ T14 L14 X14 ⟨rfl, N14q, e14⟩
    have N14 := Fr.app N13 N14q
    show End _ _ _ _ _ _ _ (T14.setTop (mkF m 158 #[.val (.int x0), .val (.int x1), .val (.int x2), .val (.int x3), .val (.int nu), .val (.int sel), .val (.int (0 : Int32)), .val (.long ky), .second, .val (.int mn), .val (.int len), .val (.ref ar), .unset, .unset, .unset, .unset, .unset, .unset, .unset, .unset, .unset, .unset, .unset] [(.int (f2 ky (5 : Int32) len)), (.int (5 : Int32)), (.ref ar)]))
    refine k_asB X14 hx hZ e14 5 (q := 159) rfl (hb hby at_158) V13 ⟨by decide, by decide⟩ (by decide) ?_
    intro T15 h15 X15 e15 W15 V15
    have K15 := Keep.of_wr W15
    have N15 := Fr.snoc X15 N14 ge_ar
    refine k_aload X15 hx (q := 161) rfl (hb hby at_159) rfl rfl ?_
    refine k_bipush X15 hx (v := (6 : Int32)) rfl (q := 163) rfl (hb hby at_161) ?_
    refine k_lload X15 hx (q := 165) rfl (hb hby at_163) rfl ?_
    refine k_bipush X15 hx (v := (6 : Int32)) rfl (q := 167) rfl (hb hby at_165) ?_
    refine k_iload X15 hx (q := 169) rfl (hb hby at_167) rfl ?_
    refine k_callS X15 hx hZ (y := (⟨"com/example/footwise/footwise/osm/ProtobufNextPinLaw", "enc", "(JII)B"⟩ : MethodName)) hown (hw _ (List.mem_of_getElem? (i := 8) rfl)) (hw _ (List.mem_of_getElem? (i := 9) rfl)) (hw _ (List.mem_of_getElem? (i := 4) rfl)) (hw _ (List.mem_of_getElem? (i := 10) rfl)) (by decide) 2 e15 (rm2 l Z a0 hw ky (6 : Int32) len h15 n0) (by decide) (by decide) (by decide) (by decide) (by rw [hml]; rfl) (as := [(.long ky), (.int (6 : Int32)), (.int len)]) (rest := [(.int (6 : Int32)), (.ref ar)]) pd_6 rfl (by first | exact Nat.le_refl _ | simp [Value.category]) (q := 172) rfl (hb hby at_169) ?_
    rintro _ T16 L16 X16 ⟨rfl, N16q, e16⟩
    have N16 := Fr.app N15 N16q
    show End _ _ _ _ _ _ _ (T16.setTop (mkF m 172 #[.val (.int x0), .val (.int x1), .val (.int x2), .val (.int x3), .val (.int nu), .val (.int sel), .val (.int (0 : Int32)), .val (.long ky), .second, .val (.int mn), .val (.int len), .val (.ref ar), .unset, .unset, .unset, .unset, .unset, .unset, .unset, .unset, .unset, .unset, .unset] [(.int (f2 ky (6 : Int32) len)), (.int (6 : Int32)), (.ref ar)]))
    refine k_asB X16 hx hZ e16 6 (q := 173) rfl (hb hby at_172) V15 ⟨by decide, by decide⟩ (by decide) ?_
    intro T17 h17 X17 e17 W17 V17
    have K17 := Keep.of_wr W17
    have N17 := Fr.snoc X17 N16 ge_ar
    refine k_aload X17 hx (q := 175) rfl (hb hby at_173) rfl rfl ?_
    refine k_bipush X17 hx (v := (7 : Int32)) rfl (q := 177) rfl (hb hby at_175) ?_
    refine k_lload X17 hx (q := 179) rfl (hb hby at_177) rfl ?_
    refine k_bipush X17 hx (v := (7 : Int32)) rfl (q := 181) rfl (hb hby at_179) ?_
    refine k_iload X17 hx (q := 183) rfl (hb hby at_181) rfl ?_
    refine k_callS X17 hx hZ (y := (⟨"com/example/footwise/footwise/osm/ProtobufNextPinLaw", "enc", "(JII)B"⟩ : MethodName)) hown (hw _ (List.mem_of_getElem? (i := 8) rfl)) (hw _ (List.mem_of_getElem? (i := 9) rfl)) (hw _ (List.mem_of_getElem? (i := 4) rfl)) (hw _ (List.mem_of_getElem? (i := 10) rfl)) (by decide) 2 e17 (rm2 l Z a0 hw ky (7 : Int32) len h17 n0) (by decide) (by decide) (by decide) (by decide) (by rw [hml]; rfl) (as := [(.long ky), (.int (7 : Int32)), (.int len)]) (rest := [(.int (7 : Int32)), (.ref ar)]) pd_6 rfl (by first | exact Nat.le_refl _ | simp [Value.category]) (q := 186) rfl (hb hby at_183) ?_
    rintro _ T18 L18 X18 ⟨rfl, N18q, e18⟩
    have N18 := Fr.app N17 N18q
    show End _ _ _ _ _ _ _ (T18.setTop (mkF m 186 #[.val (.int x0), .val (.int x1), .val (.int x2), .val (.int x3), .val (.int nu), .val (.int sel), .val (.int (0 : Int32)), .val (.long ky), .second, .val (.int mn), .val (.int len), .val (.ref ar), .unset, .unset, .unset, .unset, .unset, .unset, .unset, .unset, .unset, .unset, .unset] [(.int (f2 ky (7 : Int32) len)), (.int (7 : Int32)), (.ref ar)]))
    refine k_asB X18 hx hZ e18 7 (q := 187) rfl (hb hby at_186) V17 ⟨by decide, by decide⟩ (by decide) ?_
    intro T19 h19 X19 e19 W19 V19
    have K19 := Keep.of_wr W19
    have N19 := Fr.snoc X19 N18 ge_ar
    refine k_aload X19 hx (q := 189) rfl (hb hby at_187) rfl rfl ?_
    refine k_bipush X19 hx (v := (8 : Int32)) rfl (q := 191) rfl (hb hby at_189) ?_
    refine k_lload X19 hx (q := 193) rfl (hb hby at_191) rfl ?_
    refine k_bipush X19 hx (v := (8 : Int32)) rfl (q := 195) rfl (hb hby at_193) ?_
    refine k_iload X19 hx (q := 197) rfl (hb hby at_195) rfl ?_
    refine k_callS X19 hx hZ (y := (⟨"com/example/footwise/footwise/osm/ProtobufNextPinLaw", "enc", "(JII)B"⟩ : MethodName)) hown (hw _ (List.mem_of_getElem? (i := 8) rfl)) (hw _ (List.mem_of_getElem? (i := 9) rfl)) (hw _ (List.mem_of_getElem? (i := 4) rfl)) (hw _ (List.mem_of_getElem? (i := 10) rfl)) (by decide) 2 e19 (rm2 l Z a0 hw ky (8 : Int32) len h19 n0) (by decide) (by decide) (by decide) (by decide) (by rw [hml]; rfl) (as := [(.long ky), (.int (8 : Int32)), (.int len)]) (rest := [(.int (8 : Int32)), (.ref ar)]) pd_6 rfl (by first | exact Nat.le_refl _ | simp [Value.category]) (q := 200) rfl (hb hby at_197) ?_
    rintro _ T20 L20 X20 ⟨rfl, N20q, e20⟩
    have N20 := Fr.app N19 N20q
    show End _ _ _ _ _ _ _ (T20.setTop (mkF m 200 #[.val (.int x0), .val (.int x1), .val (.int x2), .val (.int x3), .val (.int nu), .val (.int sel), .val (.int (0 : Int32)), .val (.long ky), .second, .val (.int mn), .val (.int len), .val (.ref ar), .unset, .unset, .unset, .unset, .unset, .unset, .unset, .unset, .unset, .unset, .unset] [(.int (f2 ky (8 : Int32) len)), (.int (8 : Int32)), (.ref ar)]))
    refine k_asB X20 hx hZ e20 8 (q := 201) rfl (hb hby at_200) V19 ⟨by decide, by decide⟩ (by decide) ?_
    intro T21 h21 X21 e21 W21 V21
    have K21 := Keep.of_wr W21
    have N21 := Fr.snoc X21 N20 ge_ar
    refine k_aload X21 hx (q := 203) rfl (hb hby at_201) rfl rfl ?_
    refine k_bipush X21 hx (v := (9 : Int32)) rfl (q := 205) rfl (hb hby at_203) ?_
    refine k_lload X21 hx (q := 207) rfl (hb hby at_205) rfl ?_
    refine k_bipush X21 hx (v := (9 : Int32)) rfl (q := 209) rfl (hb hby at_207) ?_
    refine k_iload X21 hx (q := 211) rfl (hb hby at_209) rfl ?_
    refine k_callS X21 hx hZ (y := (⟨"com/example/footwise/footwise/osm/ProtobufNextPinLaw", "enc", "(JII)B"⟩ : MethodName)) hown (hw _ (List.mem_of_getElem? (i := 8) rfl)) (hw _ (List.mem_of_getElem? (i := 9) rfl)) (hw _ (List.mem_of_getElem? (i := 4) rfl)) (hw _ (List.mem_of_getElem? (i := 10) rfl)) (by decide) 2 e21 (rm2 l Z a0 hw ky (9 : Int32) len h21 n0) (by decide) (by decide) (by decide) (by decide) (by rw [hml]; rfl) (as := [(.long ky), (.int (9 : Int32)), (.int len)]) (rest := [(.int (9 : Int32)), (.ref ar)]) pd_6 rfl (by first | exact Nat.le_refl _ | simp [Value.category]) (q := 214) rfl (hb hby at_211) ?_
    rintro _ T22 L22 X22 ⟨rfl, N22q, e22⟩
    have N22 := Fr.app N21 N22q
    show End _ _ _ _ _ _ _ (T22.setTop (mkF m 214 #[.val (.int x0), .val (.int x1), .val (.int x2), .val (.int x3), .val (.int nu), .val (.int sel), .val (.int (0 : Int32)), .val (.long ky), .second, .val (.int mn), .val (.int len), .val (.ref ar), .unset, .unset, .unset, .unset, .unset, .unset, .unset, .unset, .unset, .unset, .unset] [(.int (f2 ky (9 : Int32) len)), (.int (9 : Int32)), (.ref ar)]))
    refine k_asB X22 hx hZ e22 9 (q := 215) rfl (hb hby at_214) V21 ⟨by decide, by decide⟩ (by decide) ?_
    intro T23 h23 X23 e23 W23 V23
    have K23 := Keep.of_wr W23
    have N23 := Fr.snoc X23 N22 ge_ar
    have Ve : Ary Z h23 ar .byte 32 (fun t => .int (if t < 10 then nar .byte (f2 ky t.toInt32 len) else 0)) := V23.congr fun t ht => by
      by_cases q : t < 10
      · have : t = 0 ∨ t = 1 ∨ t = 2 ∨ t = 3 ∨ t = 4 ∨ t = 5 ∨ t = 6 ∨ t = 7 ∨ t = 8 ∨ t = 9 := by omega
        rcases this with rfl | rfl | rfl | rfl | rfl | rfl | rfl | rfl | rfl | rfl <;> rfl
      · simp only [if_neg q, if_neg (show ¬ t = 0 by omega), if_neg (show ¬ t = 1 by omega), if_neg (show ¬ t = 2 by omega), if_neg (show ¬ t = 3 by omega), if_neg (show ¬ t = 4 by omega), if_neg (show ¬ t = 5 by omega), if_neg (show ¬ t = 6 by omega), if_neg (show ¬ t = 7 by omega), if_neg (show ¬ t = 8 by omega), if_neg (show ¬ t = 9 by omega)]
    refine k_iload X23 hx (q := 217) rfl (hb hby at_215) rfl ?_
    refine k_if_ne X23 hx (q1 := 255) (q := 220) (by decide) (by decide) rfl (hb hby at_217) (fun hc => absurd rfl hc) (fun _ => ?_)
    refine k_aload X23 hx (q := 222) rfl (hb hby at_220) rfl rfl ?_
    refine k_iload X23 hx (q := 224) rfl (hb hby at_222) rfl ?_
    refine k_sipush X23 hx (v := (128 : Int32)) rfl (q := 227) rfl (hb hby at_224) ?_
    refine k_iloadN X23 hx (q := 228) rfl (hb hby at_227) rfl ?_
    refine k_bipush X23 hx (v := (127 : Int32)) rfl (q := 230) rfl (hb hby at_228) ?_
    refine k_iand X23 hx (q := 231) rfl (hb hby at_230) ?_
    refine k_ior X23 hx (q := 232) rfl (hb hby at_231) ?_
    refine k_i2b X23 hx (q := 233) rfl (hb hby at_232) ?_
    refine k_asB X23 hx hZ e23 n (q := 234) rfl (hb hby at_233) Ve hlen (by omega) ?_
    intro T25 h25 X25 e25 W25 V25
    have K25 := Keep.of_wr W25
    have N25 := Fr.snoc X25 N23 ge_ar
    have hl1 := own_up hlen (by omega)
    refine k_aload X25 hx (q := 236) rfl (hb hby at_234) rfl rfl ?_
    refine k_iload X25 hx (q := 238) rfl (hb hby at_236) rfl ?_
    refine k_iconst X25 hx (v := (1 : Int32)) rfl (q := 239) rfl (hb hby at_238) ?_
    refine k_iadd X25 hx (q := 240) rfl (hb hby at_239) ?_
    refine k_iloadN X25 hx (q := 241) rfl (hb hby at_240) rfl ?_
    refine k_bipush X25 hx (v := (7 : Int32)) rfl (q := 243) rfl (hb hby at_241) ?_
    refine k_iushr X25 hx (q := 244) rfl (hb hby at_243) ?_
    refine k_bipush X25 hx (v := (127 : Int32)) rfl (q := 246) rfl (hb hby at_244) ?_
    refine k_iand X25 hx (q := 247) rfl (hb hby at_246) ?_
    refine k_i2b X25 hx (q := 248) rfl (hb hby at_247) ?_
    refine k_asB X25 hx hZ e25 (n + 1) (q := 249) rfl (hb hby at_248) V25 hl1 (by omega) ?_
    intro T26 h26 X26 e26 W26 V26
    have K26 := Keep.of_wr W26
    have N26 := Fr.snoc X26 N25 ge_ar
    refine k_iconst X26 hx (v := (2 : Int32)) rfl (q := 250) rfl (hb hby at_249) ?_
    refine k_istore X26 hx (L' := #[.val (.int x0), .val (.int x1), .val (.int x2), .val (.int x3), .val (.int nu), .val (.int sel), .val (.int (0 : Int32)), .val (.long ky), .second, .val (.int mn), .val (.int len), .val (.ref ar), .val (.int (2 : Int32)), .unset, .unset, .unset, .unset, .unset, .unset, .unset, .unset, .unset, .unset]) (q := 252) rfl (hb hby at_250) rfl ?_
    refine k_goto X26 hx (q := 344) (by decide) (by decide) (hb hby at_252) ?_
    refine k_iload X26 hx (q := 346) rfl (hb hby at_344) rfl ?_
    refine k_iload X26 hx (q := 348) rfl (hb hby at_346) rfl ?_
    refine k_iadd X26 hx (q := 349) rfl (hb hby at_348) ?_
    refine k_istore X26 hx (L' := #[.val (.int x0), .val (.int x1), .val (.int x2), .val (.int x3), .val (.int nu), .val (.int sel), .val (.int (0 : Int32)), .val (.long ky), .second, .val (.int mn), .val (.int len), .val (.ref ar), .val (.int (2 : Int32)), .val (.int (len + (2 : Int32))), .unset, .unset, .unset, .unset, .unset, .unset, .unset, .unset, .unset]) (q := 351) rfl (hb hby at_349) rfl ?_
    have hp : Ix (len + (2 : Int32)) (n + 2) := own_addi hlen ⟨by decide, by decide⟩ (by omega)
    generalize hpp : (len + (2 : Int32)) = pp
    rw [hpp] at hp
    refine k_aload X26 hx (q := 353) rfl (hb hby at_351) rfl rfl ?_
    refine k_iload X26 hx (q := 355) rfl (hb hby at_353) rfl ?_
    refine k_bipush X26 hx (v := (10 : Int32)) rfl (q := 357) rfl (hb hby at_355) ?_
    refine k_asB X26 hx hZ e26 (n + 2) (q := 358) rfl (hb hby at_357) V26 hp (by omega) ?_
    intro T27 h27 X27 e27 W27 V27
    have K27 := Keep.of_wr W27
    have N27 := Fr.snoc X27 N26 ge_ar
    have hp1 := own_up hp (by omega)
    refine k_aload X27 hx (q := 360) rfl (hb hby at_358) rfl rfl ?_
    refine k_iload X27 hx (q := 362) rfl (hb hby at_360) rfl ?_
    refine k_iconst X27 hx (v := (1 : Int32)) rfl (q := 363) rfl (hb hby at_362) ?_
    refine k_iadd X27 hx (q := 364) rfl (hb hby at_363) ?_
    refine k_bipush X27 hx (v := (32 : Int32)) rfl (q := 366) rfl (hb hby at_364) ?_
    refine k_iload X27 hx (q := 368) rfl (hb hby at_366) rfl ?_
    refine k_isub X27 hx (q := 369) rfl (hb hby at_368) ?_
    refine k_iconst X27 hx (v := (2 : Int32)) rfl (q := 370) rfl (hb hby at_369) ?_
    refine k_isub X27 hx (q := 371) rfl (hb hby at_370) ?_
    refine k_i2b X27 hx (q := 372) rfl (hb hby at_371) ?_
    refine k_asB X27 hx hZ e27 ((n + 2) + 1) (q := 373) rfl (hb hby at_372) V27 hp1 (by omega) ?_
    intro T28 h28 X28 e28 W28 V28
    have K28 := Keep.of_wr W28
    have N28 := Fr.snoc X28 N27 ge_ar
    obtain ⟨g, hg⟩ : ∃ g : Nat → Int32, g = fun t => (if t = ((n + 2) + 1) then nar .byte ((((32 : Int32) - pp) - (2 : Int32)).toInt8.toInt32) else (if t = (n + 2) then nar .byte (10 : Int32) else (if t = (n + 1) then nar .byte ((((x2.toUInt32 >>> ((7 : Int32) &&& 31).toUInt32).toInt32) &&& (127 : Int32)).toInt8.toInt32) else (if t = n then nar .byte (((128 : Int32) ||| (x2 &&& (127 : Int32))).toInt8.toInt32) else (if t < 10 then nar .byte (f2 ky t.toInt32 len) else 0))))) := ⟨_, rfl⟩
    have Vg : Ary Z h28 ar .byte 32 (fun t => .int (g t)) := V28.congr fun t ht => by
      rw [hg]
      show _ = Value.int (if t = ((n + 2) + 1) then nar .byte ((((32 : Int32) - pp) - (2 : Int32)).toInt8.toInt32) else (if t = (n + 2) then nar .byte (10 : Int32) else (if t = (n + 1) then nar .byte ((((x2.toUInt32 >>> ((7 : Int32) &&& 31).toUInt32).toInt32) &&& (127 : Int32)).toInt8.toInt32) else (if t = n then nar .byte (((128 : Int32) ||| (x2 &&& (127 : Int32))).toInt8.toInt32) else (if t < 10 then nar .byte (f2 ky t.toInt32 len) else 0)))))
      repeat' split
      all_goals rfl
    have g_lo : ∀ t, t < n → g t = nar .byte (f2 ky t.toInt32 len) := fun t ht => by
      rw [hg]; simp only [if_neg (show ¬ t = n by omega), if_neg (show ¬ t = (n + 1) by omega), if_neg (show ¬ t = (n + 2) by omega), if_neg (show ¬ t = ((n + 2) + 1) by omega), if_pos (show t < 10 by omega)]
    have g_p : g (n + 2) = nar .byte ((10 : Int32)) := by
      rw [hg]; simp only [if_neg (show ¬ (n + 2) = ((n + 2) + 1) by omega), if_true]
    have g_p1 : g ((n + 2) + 1) = nar .byte ((((32 : Int32) - pp) - (2 : Int32)).toInt8.toInt32) := by
      rw [hg]; simp only [if_true]
    have g_v0 : g n = nar .byte (((128 : Int32) ||| (x2 &&& (127 : Int32))).toInt8.toInt32) := by
      rw [hg]; simp only [if_neg (show ¬ n = (n + 1) by omega), if_neg (show ¬ n = (n + 2) by omega), if_neg (show ¬ n = ((n + 2) + 1) by omega), if_true]
    have g_v1 : g (n + 1) = nar .byte ((((x2.toUInt32 >>> ((7 : Int32) &&& 31).toUInt32).toInt32) &&& (127 : Int32)).toInt8.toInt32) := by
      rw [hg]; simp only [if_neg (show ¬ (n + 1) = (n + 2) by omega), if_neg (show ¬ (n + 1) = ((n + 2) + 1) by omega), if_true]
    have hk0' : 0 ≤ ky.toInt := by omega
    have hraw : own_raw g 0 n = ky := own_whole g ky hk0' hm5 hmk hmn' hn10 fun t ht => by
      rw [g_lo t ht, own_enc ky hk0' hlen hn10 ht]
      have d0 := Int.emod_nonneg (ky.toInt / 128 ^ t) (show (128 : Int) ≠ 0 by decide)
      have d1 := Int.emod_lt_of_pos (ky.toInt / 128 ^ t) (show (0 : Int) < 128 by decide)
      split <;> omega
    have hneg : ∀ t, t < n - 1 → g (0 + t) < 0 := fun t ht => by
      have e := own_enc ky hk0' hlen hn10 (t := t) (by omega)
      rw [← g_lo t (by omega), if_neg (by omega)] at e
      have d1 := Int.emod_lt_of_pos (ky.toInt / 128 ^ t) (show (0 : Int) < 128 by decide)
      rw [Nat.zero_add, Int32.lt_iff_toInt_lt, e]
      have : (0 : Int32).toInt = 0 := by decide
      omega
    have hnon : ¬ g (0 + (n - 1)) < 0 := by
      have e := own_enc ky hk0' hlen hn10 (t := n - 1) (by omega)
      rw [← g_lo (n - 1) (by omega), if_pos rfl] at e
      have d0 := Int.emod_nonneg (ky.toInt / 128 ^ (n - 1)) (show (128 : Int) ≠ 0 by decide)
      rw [Nat.zero_add, Int32.lt_iff_toInt_lt, e]
      have : (0 : Int32).toInt = 0 := by decide
      omega
    obtain ⟨hf1, hf2, hf3, hf4⟩ := own_fields (w := (0 : Int32)) hky hnu1 hnu2 (by decide) (by decide)
    have g_p' : (g (n + 2)).toInt = 10 := by rw [g_p]; decide
    have g_p1' : (g ((n + 2) + 1)).toInt = 30 - ((n + 2) : Nat) := by
      rw [g_p1]
      have i := hp.int
      have s1 := c_isub 32 pp
      have s2 := c_isub ((32 : Int32) - pp) 2
      have e32 : (32 : Int32).toInt = 32 := by decide
      have e2 : (2 : Int32).toInt = 2 := by decide
      have r1 := rng32 ((32 : Int32) - pp)
      have r2 := rng32 ((32 : Int32) - pp - 2)
      have b1 := c_i2b ((32 : Int32) - pp - 2)
      have b2 := own_nb ((32 : Int32) - pp - 2).toInt8.toInt32
      omega
    refine k_new X28 hx hZ hown (hw _ (List.mem_of_getElem? (i := 12) rfl)) (hw _ (List.mem_of_getElem? (i := 13) rfl)) (hw _ (List.mem_of_getElem? (i := 14) rfl)) e28 (q := 376) rfl (hb hby at_373) (by decide) (by decide) ?_
    intro T29 h29 pe X29 e29 g29 E29 A29 D29
    have K29 := Keep.of_ext E29
    have F30 : Fld Z h29 pe "com/example/footwise/footwise/osm/Protobuf" "bytes" "[B" .null := D29 (Or.inr (hw _ (List.mem_of_getElem? (i := 25) rfl))) (ty := (.array .byte)) (by decide)
    have F31 : Fld Z h29 pe "com/example/footwise/footwise/osm/Protobuf" "position" "I" (.int (0 : Int32)) := D29 (Or.inl (hw _ (List.mem_of_getElem? (i := 27) rfl))) (ty := .int) (by decide)
    have F32 : Fld Z h29 pe "com/example/footwise/footwise/osm/Protobuf" "end" "I" (.int (0 : Int32)) := D29 (Or.inr (hw _ (List.mem_of_getElem? (i := 29) rfl))) (ty := .int) (by decide)
    have F33 : Fld Z h29 pe "com/example/footwise/footwise/osm/Protobuf" "field" "I" (.int (0 : Int32)) := D29 (Or.inl (hw _ (List.mem_of_getElem? (i := 41) rfl))) (ty := .int) (by decide)
    have F34 : Fld Z h29 pe "com/example/footwise/footwise/osm/Protobuf" "wireType" "I" (.int (0 : Int32)) := D29 (Or.inl (hw _ (List.mem_of_getElem? (i := 44) rfl))) (ty := .int) (by decide)
    refine k_dup X29 hx (q := 377) rfl (hb hby at_376) rfl ?_
    refine k_iconst X29 hx (v := (0 : Int32)) rfl (q := 378) rfl (hb hby at_377) ?_
    refine k_newP X29 hx hZ (hw _ (List.mem_of_getElem? (i := 7) rfl)) e29 (q := 380) rfl (hb hby at_378) (by decide) (cap := 0) (by decide) (by decide) (by decide) (by decide) ?_
    intro T35 h35 ea k35 X35 e35 g35 E35 A35
    have K35 := Keep.of_ext E35
    have V35 : Ary Z h35 ea .byte 0 (fun _ => .int (0 : Int32)) := Ary.new A35 (by decide) rfl
    have Sz50 : n0 ≤ h3.size := Nat.le_trans Z0 K3.1
    have Sz49 : n0 ≤ h5.size := Nat.le_trans Sz50 K5.1
    have Sz48 : n0 ≤ h7.size := Nat.le_trans Sz49 K7.1
    have Sz47 : n0 ≤ h9.size := Nat.le_trans Sz48 K9.1
    have Sz46 : n0 ≤ h11.size := Nat.le_trans Sz47 K11.1
    have Sz45 : n0 ≤ h13.size := Nat.le_trans Sz46 K13.1
    have Sz44 : n0 ≤ h15.size := Nat.le_trans Sz45 K15.1
    have Sz43 : n0 ≤ h17.size := Nat.le_trans Sz44 K17.1
    have Sz42 : n0 ≤ h19.size := Nat.le_trans Sz43 K19.1
    have Sz41 : n0 ≤ h21.size := Nat.le_trans Sz42 K21.1
    have Sz40 : n0 ≤ h23.size := Nat.le_trans Sz41 K23.1
    have Sz39 : n0 ≤ h25.size := Nat.le_trans Sz40 K25.1
    have Sz38 : n0 ≤ h26.size := Nat.le_trans Sz39 K26.1
    have Sz37 : n0 ≤ h27.size := Nat.le_trans Sz38 K27.1
    have Sz36 : n0 ≤ h28.size := Nat.le_trans Sz37 K28.1
    have ge_pe : n0 ≤ pe := Nat.le_trans Sz36 (Nat.le_of_eq g29.symm)
    have G51 := (A29.keep K35)
    have G52 := (F30.keep K35 nin0)
    have G53 := (F31.keep K35 nin0)
    have G54 := (F32.keep K35 nin0)
    have G55 := (F33.keep K35 nin0)
    have G56 := (F34.keep K35 nin0)
    refine k_callI X35 hx hZ (y := (⟨"com/example/footwise/footwise/osm/Protobuf", "<init>", "([B)V"⟩ : MethodName)) hown rfl (hw _ (List.mem_of_getElem? (i := 15) rfl)) (hw _ (List.mem_of_getElem? (i := 16) rfl)) (hw _ (List.mem_of_getElem? (i := 14) rfl)) (hw _ (List.mem_of_getElem? (i := 17) rfl)) (by decide) 1 e35 (rm3 l Z a0 hw pe ea h35 n0 ge_pe G51 G52 G53 G54 G55 G56 0 _ V35) (by decide) (by decide) (by decide) (by decide) (by rw [hml]; rfl) (a := pe) (as := [(.ref ea)]) (rest := [(.ref pe)]) pd_7 rfl (by first | exact Nat.le_refl _ | simp [Value.category]) (q := 383) rfl (hb hby at_380) ?_
    rintro _ T57 L57 X57 ⟨rfl, N57q, K57, P57⟩
    have N57 := Fr.app N28 N57q
    show End _ _ _ _ _ _ _ (T57.setTop (mkF m 383 #[.val (.int x0), .val (.int x1), .val (.int x2), .val (.int x3), .val (.int nu), .val (.int sel), .val (.int (0 : Int32)), .val (.long ky), .second, .val (.int mn), .val (.int len), .val (.ref ar), .val (.int (2 : Int32)), .val (.int pp), .unset, .unset, .unset, .unset, .unset, .unset, .unset, .unset, .unset] [(.ref pe)]))
    refine k_astore X57 hx (L' := #[.val (.int x0), .val (.int x1), .val (.int x2), .val (.int x3), .val (.int nu), .val (.int sel), .val (.int (0 : Int32)), .val (.long ky), .second, .val (.int mn), .val (.int len), .val (.ref ar), .val (.int (2 : Int32)), .val (.int pp), .val (.ref pe), .unset, .unset, .unset, .unset, .unset, .unset, .unset, .unset]) (q := 385) rfl (hb hby at_383) rfl rfl ?_
    refine k_aload X57 hx (q := 387) rfl (hb hby at_385) rfl rfl ?_
    have ne_pe_ea : pe ≠ ea := Nat.ne_of_lt (Nat.lt_of_lt_of_le (A29).lt (Nat.le_of_eq g35.symm))
    refine k_callV X57 hx hZ (y := (⟨"com/example/footwise/footwise/osm/Protobuf", "next", "()Z"⟩ : MethodName)) (z := (⟨"com/example/footwise/footwise/osm/Protobuf", "next", "()Z"⟩ : MethodName)) hown (hw _ (List.mem_of_getElem? (i := 30) rfl)) (hw _ (List.mem_of_getElem? (i := 31) rfl)) (notFace_of_selects (args := #[]) (mvT hZ (hw _ (List.mem_of_getElem? (i := 33) rfl)))) (hw _ (List.mem_of_getElem? (i := 33) rfl)) (hw _ (List.mem_of_getElem? (i := 32) rfl)) (hw _ (List.mem_of_getElem? (i := 34) rfl)) (hw _ (List.mem_of_getElem? (i := 14) rfl)) (by decide) P57.1 0 rfl (rm6e l Z a0 hw pe T57.heap n0 ge_pe ea 0 _ 0 0 P57 (Ne.symm ne_pe_ea) 0 0 ⟨by decide, by decide⟩ (own_nat (by decide)) (by decide) (by decide)) (by decide) (by decide) (by decide) (by decide) (by rw [hml]; rfl) (a := pe) (as := []) (rest := []) pd_8 rfl (by first | exact Nat.le_refl _ | simp [Value.category]) (q := 390) rfl (hb hby at_387) ?_
    rintro _ T58 L58 X58 ⟨rfl, N58q, e58⟩
    have N58 := Fr.app N57 N58q
    show End _ _ _ _ _ _ _ (T58.setTop (mkF m 390 #[.val (.int x0), .val (.int x1), .val (.int x2), .val (.int x3), .val (.int nu), .val (.int sel), .val (.int (0 : Int32)), .val (.long ky), .second, .val (.int mn), .val (.int len), .val (.ref ar), .val (.int (2 : Int32)), .val (.int pp), .val (.ref pe), .unset, .unset, .unset, .unset, .unset, .unset, .unset, .unset] [(.int (0 : Int32))]))
    refine k_istore X58 hx (L' := #[.val (.int x0), .val (.int x1), .val (.int x2), .val (.int x3), .val (.int nu), .val (.int sel), .val (.int (0 : Int32)), .val (.long ky), .second, .val (.int mn), .val (.int len), .val (.ref ar), .val (.int (2 : Int32)), .val (.int pp), .val (.ref pe), .val (.int (0 : Int32)), .unset, .unset, .unset, .unset, .unset, .unset, .unset]) (q := 392) rfl (hb hby at_390) rfl ?_
    refine k_new X58 hx hZ hown (hw _ (List.mem_of_getElem? (i := 12) rfl)) (hw _ (List.mem_of_getElem? (i := 13) rfl)) (hw _ (List.mem_of_getElem? (i := 14) rfl)) e58 (q := 395) rfl (hb hby at_392) (by decide) (by decide) ?_
    intro T59 h59 pb X59 e59 g59 E59 A59 D59
    have K59 := Keep.of_ext E59
    have F60 : Fld Z h59 pb "com/example/footwise/footwise/osm/Protobuf" "bytes" "[B" .null := D59 (Or.inr (hw _ (List.mem_of_getElem? (i := 25) rfl))) (ty := (.array .byte)) (by decide)
    have F61 : Fld Z h59 pb "com/example/footwise/footwise/osm/Protobuf" "position" "I" (.int (0 : Int32)) := D59 (Or.inl (hw _ (List.mem_of_getElem? (i := 27) rfl))) (ty := .int) (by decide)
    have F62 : Fld Z h59 pb "com/example/footwise/footwise/osm/Protobuf" "end" "I" (.int (0 : Int32)) := D59 (Or.inr (hw _ (List.mem_of_getElem? (i := 29) rfl))) (ty := .int) (by decide)
    have F63 : Fld Z h59 pb "com/example/footwise/footwise/osm/Protobuf" "field" "I" (.int (0 : Int32)) := D59 (Or.inl (hw _ (List.mem_of_getElem? (i := 41) rfl))) (ty := .int) (by decide)
    have F64 : Fld Z h59 pb "com/example/footwise/footwise/osm/Protobuf" "wireType" "I" (.int (0 : Int32)) := D59 (Or.inl (hw _ (List.mem_of_getElem? (i := 44) rfl))) (ty := .int) (by decide)
    refine k_dup X59 hx (q := 396) rfl (hb hby at_395) rfl ?_
    refine k_aload X59 hx (q := 398) rfl (hb hby at_396) rfl rfl ?_
    have Sz67 : n0 ≤ h29.size := Nat.le_trans Sz36 K29.1
    have Sz66 : n0 ≤ h35.size := Nat.le_trans Sz67 K35.1
    have Sz65 : n0 ≤ T57.heap.size := Nat.le_trans Sz66 K57.1
    have ge_pb : n0 ≤ pb := Nat.le_trans Sz65 (Nat.le_of_eq g59.symm)
    have ne_ar_pe : ar ≠ pe := Nat.ne_of_lt (Nat.lt_of_lt_of_le (Vg).lt (Nat.le_of_eq g29.symm))
    have G68 := ((((Vg.keep K29 nin0).keep K35 nin0).keep K57 (ninS ne_ar_pe nin0)).keep K59 nin0)
    refine k_callI X59 hx hZ (y := (⟨"com/example/footwise/footwise/osm/Protobuf", "<init>", "([B)V"⟩ : MethodName)) hown rfl (hw _ (List.mem_of_getElem? (i := 15) rfl)) (hw _ (List.mem_of_getElem? (i := 16) rfl)) (hw _ (List.mem_of_getElem? (i := 14) rfl)) (hw _ (List.mem_of_getElem? (i := 17) rfl)) (by decide) 1 e59 (rm3 l Z a0 hw pb ar h59 n0 ge_pb A59 F60 F61 F62 F63 F64 32 _ G68) (by decide) (by decide) (by decide) (by decide) (by rw [hml]; rfl) (a := pb) (as := [(.ref ar)]) (rest := [(.ref pb)]) pd_7 rfl (by first | exact Nat.le_refl _ | simp [Value.category]) (q := 401) rfl (hb hby at_398) ?_
    rintro _ T69 L69 X69 ⟨rfl, N69q, K69, P69⟩
    have N69 := Fr.app N58 N69q
    show End _ _ _ _ _ _ _ (T69.setTop (mkF m 401 #[.val (.int x0), .val (.int x1), .val (.int x2), .val (.int x3), .val (.int nu), .val (.int sel), .val (.int (0 : Int32)), .val (.long ky), .second, .val (.int mn), .val (.int len), .val (.ref ar), .val (.int (2 : Int32)), .val (.int pp), .val (.ref pe), .val (.int (0 : Int32)), .unset, .unset, .unset, .unset, .unset, .unset, .unset] [(.ref pb)]))
    have G70 := (((Vg.keep K29 nin0).keep K35 nin0).keep K57 (ninS ne_ar_pe nin0))
    have ne_ar_pb : ar ≠ pb := Nat.ne_of_lt (Nat.lt_of_lt_of_le (G70).lt (Nat.le_of_eq g59.symm))
    refine k_astore X69 hx (L' := #[.val (.int x0), .val (.int x1), .val (.int x2), .val (.int x3), .val (.int nu), .val (.int sel), .val (.int (0 : Int32)), .val (.long ky), .second, .val (.int mn), .val (.int len), .val (.ref ar), .val (.int (2 : Int32)), .val (.int pp), .val (.ref pe), .val (.int (0 : Int32)), .val (.ref pb), .unset, .unset, .unset, .unset, .unset, .unset]) (q := 403) rfl (hb hby at_401) rfl rfl ?_
    refine k_aload X69 hx (q := 405) rfl (hb hby at_403) rfl rfl ?_
    have G71 := (G68.keep K69 (ninS ne_ar_pb nin0))
    refine k_callV X69 hx hZ (y := (⟨"com/example/footwise/footwise/osm/Protobuf", "next", "()Z"⟩ : MethodName)) (z := (⟨"com/example/footwise/footwise/osm/Protobuf", "next", "()Z"⟩ : MethodName)) hown (hw _ (List.mem_of_getElem? (i := 30) rfl)) (hw _ (List.mem_of_getElem? (i := 31) rfl)) (notFace_of_selects (args := #[]) (mvT hZ (hw _ (List.mem_of_getElem? (i := 33) rfl)))) (hw _ (List.mem_of_getElem? (i := 33) rfl)) (hw _ (List.mem_of_getElem? (i := 32) rfl)) (hw _ (List.mem_of_getElem? (i := 34) rfl)) (hw _ (List.mem_of_getElem? (i := 14) rfl)) (by decide) P69.1 0 rfl (rm6 l Z a0 hw pb T69.heap n0 ge_pb ar 0 _ 0 0 P69 ne_ar_pb 0 32 ⟨by decide, by decide⟩ (own_nat (by decide)) (by decide) 32 (by decide) g G71 (n - 1) (by omega) hneg hnon (by omega) ky (by rw [show n - 1 + 1 = n by omega]; exact hraw) hf1 hf2) (by decide) (by decide) (by decide) (by decide) (by rw [hml]; rfl) (a := pb) (as := []) (rest := []) pd_8 rfl (by first | exact Nat.le_refl _ | simp [Value.category]) (q := 408) rfl (hb hby at_405) ?_
    rintro _ T72 L72 X72 ⟨rfl, N72q, K72, q1, hq1, P72⟩
    have N72 := Fr.app N69 N72q
    show End _ _ _ _ _ _ _ (T72.setTop (mkF m 408 #[.val (.int x0), .val (.int x1), .val (.int x2), .val (.int x3), .val (.int nu), .val (.int sel), .val (.int (0 : Int32)), .val (.long ky), .second, .val (.int mn), .val (.int len), .val (.ref ar), .val (.int (2 : Int32)), .val (.int pp), .val (.ref pe), .val (.int (0 : Int32)), .val (.ref pb), .unset, .unset, .unset, .unset, .unset, .unset] [(.int (1 : Int32))]))
    rw [hf3, hf4] at P72
    rw [show 0 + (n - 1) + 1 = n by omega] at hq1
    refine k_istore X72 hx (L' := #[.val (.int x0), .val (.int x1), .val (.int x2), .val (.int x3), .val (.int nu), .val (.int sel), .val (.int (0 : Int32)), .val (.long ky), .second, .val (.int mn), .val (.int len), .val (.ref ar), .val (.int (2 : Int32)), .val (.int pp), .val (.ref pe), .val (.int (0 : Int32)), .val (.ref pb), .val (.int (1 : Int32)), .unset, .unset, .unset, .unset, .unset]) (q := 410) rfl (hb hby at_408) rfl ?_
    refine k_aload X72 hx (q := 412) rfl (hb hby at_410) rfl rfl ?_
    refine k_callV X72 hx hZ (y := (⟨"com/example/footwise/footwise/osm/Protobuf", "field", "()I"⟩ : MethodName)) (z := (⟨"com/example/footwise/footwise/osm/Protobuf", "field", "()I"⟩ : MethodName)) hown (hw _ (List.mem_of_getElem? (i := 45) rfl)) (hw _ (List.mem_of_getElem? (i := 46) rfl)) (notFace_of_selects (args := #[]) (mvT hZ (hw _ (List.mem_of_getElem? (i := 48) rfl)))) (hw _ (List.mem_of_getElem? (i := 48) rfl)) (hw _ (List.mem_of_getElem? (i := 47) rfl)) (hw _ (List.mem_of_getElem? (i := 49) rfl)) (hw _ (List.mem_of_getElem? (i := 14) rfl)) (by decide) P72.1 0 rfl (rm8 l Z a0 hw pb T72.heap n0 nu P72.2.2.2.2.1) (by decide) (by decide) (by decide) (by decide) (by rw [hml]; rfl) (a := pb) (as := []) (rest := []) pd_3 rfl (by first | exact Nat.le_refl _ | simp [Value.category]) (q := 415) rfl (hb hby at_412) ?_
    rintro _ T73 L73 X73 ⟨rfl, N73q, e73⟩
    have N73 := Fr.app N72 N73q
    show End _ _ _ _ _ _ _ (T73.setTop (mkF m 415 #[.val (.int x0), .val (.int x1), .val (.int x2), .val (.int x3), .val (.int nu), .val (.int sel), .val (.int (0 : Int32)), .val (.long ky), .second, .val (.int mn), .val (.int len), .val (.ref ar), .val (.int (2 : Int32)), .val (.int pp), .val (.ref pe), .val (.int (0 : Int32)), .val (.ref pb), .val (.int (1 : Int32)), .unset, .unset, .unset, .unset, .unset] [(.int nu)]))
    refine k_istore X73 hx (L' := #[.val (.int x0), .val (.int x1), .val (.int x2), .val (.int x3), .val (.int nu), .val (.int sel), .val (.int (0 : Int32)), .val (.long ky), .second, .val (.int mn), .val (.int len), .val (.ref ar), .val (.int (2 : Int32)), .val (.int pp), .val (.ref pe), .val (.int (0 : Int32)), .val (.ref pb), .val (.int (1 : Int32)), .val (.int nu), .unset, .unset, .unset, .unset]) (q := 417) rfl (hb hby at_415) rfl ?_
    refine k_aload X73 hx (q := 419) rfl (hb hby at_417) rfl rfl ?_
    have G74 := (G71.keep K72 (ninS ne_ar_pb nin0))
    have hv0 : g (n + 0) < 0 := by
      rw [Nat.add_zero, g_v0, Int32.lt_iff_toInt_lt]
      have a1 := own_and127 x2
      have o := c_or 128 (x2 &&& (127 : Int32)) 7 (by decide) 128 (by decide) (by decide) (by omega) (by omega)
      have e8 : (128 : Int32).toInt = 128 := by decide
      have z0 : (0 : Int32).toInt = 0 := by decide
      have r := rng32 ((128 : Int32) ||| (x2 &&& 127))
      have b1 := c_i2b ((128 : Int32) ||| (x2 &&& 127))
      have b2 := own_nb ((128 : Int32) ||| (x2 &&& 127)).toInt8.toInt32
      omega
    have hv1 : ¬ g (n + 1) < 0 := by
      rw [g_v1, Int32.lt_iff_toInt_lt]
      have a1 := own_and127 ((x2.toUInt32 >>> ((7 : Int32) &&& 31).toUInt32).toInt32)
      have z0 : (0 : Int32).toInt = 0 := by decide
      have b1 := c_i2b (((x2.toUInt32 >>> ((7 : Int32) &&& 31).toUInt32).toInt32) &&& (127 : Int32))
      have b2 := own_nb (((x2.toUInt32 >>> ((7 : Int32) &&& 31).toUInt32).toInt32) &&& (127 : Int32)).toInt8.toInt32
      omega
    refine k_callV X73 hx hZ (y := (⟨"com/example/footwise/footwise/osm/Protobuf", "skip", "()V"⟩ : MethodName)) (z := (⟨"com/example/footwise/footwise/osm/Protobuf", "skip", "()V"⟩ : MethodName)) hown (hw _ (List.mem_of_getElem? (i := 50) rfl)) (hw _ (List.mem_of_getElem? (i := 51) rfl)) (notFace_of_selects (args := #[]) (mvT hZ (hw _ (List.mem_of_getElem? (i := 53) rfl)))) (hw _ (List.mem_of_getElem? (i := 53) rfl)) (hw _ (List.mem_of_getElem? (i := 52) rfl)) (hw _ (List.mem_of_getElem? (i := 54) rfl)) (hw _ (List.mem_of_getElem? (i := 14) rfl)) (by decide) P72.1 0 e73 (rm9z l Z a0 hw pb T72.heap n0 ge_pb ar q1 _ nu P72 ne_ar_pb n 32 hq1 (own_nat (by decide)) (by decide) 32 (by decide) g G74 1 (by decide) (fun t ht => by have q : t = 0 := (by omega); rw [q]; exact hv0) hv1 (by omega)) (by decide) (by decide) (by decide) (by decide) (by rw [hml]; rfl) (a := pb) (as := []) (rest := []) pd_9 rfl (by first | exact Nat.le_refl _ | simp [Value.category]) (q := 422) rfl (hb hby at_419) ?_
    rintro _ T75 L75 X75 ⟨rfl, N75q, K75, q2, hq2, P75⟩
    have N75 := Fr.app N73 N75q
    show End _ _ _ _ _ _ _ (T75.setTop (mkF m 422 #[.val (.int x0), .val (.int x1), .val (.int x2), .val (.int x3), .val (.int nu), .val (.int sel), .val (.int (0 : Int32)), .val (.long ky), .second, .val (.int mn), .val (.int len), .val (.ref ar), .val (.int (2 : Int32)), .val (.int pp), .val (.ref pe), .val (.int (0 : Int32)), .val (.ref pb), .val (.int (1 : Int32)), .val (.int nu), .unset, .unset, .unset, .unset] []))
    have hq2' : Ix q2 (n + 2) := by
      have e : n + 1 + 1 = (n + 2) := by omega
      rw [← e]; exact hq2
    refine k_aload X75 hx (q := 424) rfl (hb hby at_422) rfl rfl ?_
    have G76 := (G74.keep K75 (ninS ne_ar_pb nin0))
    have hr10 : (own_raw g (n + 2) (0 + 1)).toInt = 10 := by rw [own_raw1, g_p']; decide
    obtain ⟨e1, e2, e3, e4⟩ := own_fields (k := own_raw g (n + 2) (0 + 1)) (nu := 1) (w := 2) (by rw [hr10]; decide) (by decide) (by decide) (by decide) (by decide)
    refine k_callV X75 hx hZ (y := (⟨"com/example/footwise/footwise/osm/Protobuf", "next", "()Z"⟩ : MethodName)) (z := (⟨"com/example/footwise/footwise/osm/Protobuf", "next", "()Z"⟩ : MethodName)) hown (hw _ (List.mem_of_getElem? (i := 30) rfl)) (hw _ (List.mem_of_getElem? (i := 31) rfl)) (notFace_of_selects (args := #[]) (mvT hZ (hw _ (List.mem_of_getElem? (i := 33) rfl)))) (hw _ (List.mem_of_getElem? (i := 33) rfl)) (hw _ (List.mem_of_getElem? (i := 32) rfl)) (hw _ (List.mem_of_getElem? (i := 34) rfl)) (hw _ (List.mem_of_getElem? (i := 14) rfl)) (by decide) P75.1 0 rfl (rm6 l Z a0 hw pb T75.heap n0 ge_pb ar q2 _ nu (0 : Int32) P75 ne_ar_pb (n + 2) 32 hq2' (own_nat (by decide)) (by decide) 32 (by decide) g G76 0 (by decide) (fun t ht => by omega) (by rw [Nat.add_zero, Int32.lt_iff_toInt_lt, g_p']; decide) (by omega) _ rfl e1 e2) (by decide) (by decide) (by decide) (by decide) (by rw [hml]; rfl) (a := pb) (as := []) (rest := []) pd_8 rfl (by first | exact Nat.le_refl _ | simp [Value.category]) (q := 427) rfl (hb hby at_424) ?_
    rintro _ T77 L77 X77 ⟨rfl, N77q, K77, q3, hq3, P77⟩
    have N77 := Fr.app N75 N77q
    show End _ _ _ _ _ _ _ (T77.setTop (mkF m 427 #[.val (.int x0), .val (.int x1), .val (.int x2), .val (.int x3), .val (.int nu), .val (.int sel), .val (.int (0 : Int32)), .val (.long ky), .second, .val (.int mn), .val (.int len), .val (.ref ar), .val (.int (2 : Int32)), .val (.int pp), .val (.ref pe), .val (.int (0 : Int32)), .val (.ref pb), .val (.int (1 : Int32)), .val (.int nu), .unset, .unset, .unset, .unset] [(.int (1 : Int32))]))
    rw [e3, e4] at P77
    refine k_istore X77 hx (L' := #[.val (.int x0), .val (.int x1), .val (.int x2), .val (.int x3), .val (.int nu), .val (.int sel), .val (.int (0 : Int32)), .val (.long ky), .second, .val (.int mn), .val (.int len), .val (.ref ar), .val (.int (2 : Int32)), .val (.int pp), .val (.ref pe), .val (.int (0 : Int32)), .val (.ref pb), .val (.int (1 : Int32)), .val (.int nu), .val (.int (1 : Int32)), .unset, .unset, .unset]) (q := 429) rfl (hb hby at_427) rfl ?_
    refine k_aload X77 hx (q := 431) rfl (hb hby at_429) rfl rfl ?_
    refine k_callV X77 hx hZ (y := (⟨"com/example/footwise/footwise/osm/Protobuf", "field", "()I"⟩ : MethodName)) (z := (⟨"com/example/footwise/footwise/osm/Protobuf", "field", "()I"⟩ : MethodName)) hown (hw _ (List.mem_of_getElem? (i := 45) rfl)) (hw _ (List.mem_of_getElem? (i := 46) rfl)) (notFace_of_selects (args := #[]) (mvT hZ (hw _ (List.mem_of_getElem? (i := 48) rfl)))) (hw _ (List.mem_of_getElem? (i := 48) rfl)) (hw _ (List.mem_of_getElem? (i := 47) rfl)) (hw _ (List.mem_of_getElem? (i := 49) rfl)) (hw _ (List.mem_of_getElem? (i := 14) rfl)) (by decide) P77.1 0 rfl (rm8 l Z a0 hw pb T77.heap n0 1 P77.2.2.2.2.1) (by decide) (by decide) (by decide) (by decide) (by rw [hml]; rfl) (a := pb) (as := []) (rest := []) pd_3 rfl (by first | exact Nat.le_refl _ | simp [Value.category]) (q := 434) rfl (hb hby at_431) ?_
    rintro _ T78 L78 X78 ⟨rfl, N78q, e78⟩
    have N78 := Fr.app N77 N78q
    show End _ _ _ _ _ _ _ (T78.setTop (mkF m 434 #[.val (.int x0), .val (.int x1), .val (.int x2), .val (.int x3), .val (.int nu), .val (.int sel), .val (.int (0 : Int32)), .val (.long ky), .second, .val (.int mn), .val (.int len), .val (.ref ar), .val (.int (2 : Int32)), .val (.int pp), .val (.ref pe), .val (.int (0 : Int32)), .val (.ref pb), .val (.int (1 : Int32)), .val (.int nu), .val (.int (1 : Int32)), .unset, .unset, .unset] [(.int (1 : Int32))]))
    refine k_istore X78 hx (L' := #[.val (.int x0), .val (.int x1), .val (.int x2), .val (.int x3), .val (.int nu), .val (.int sel), .val (.int (0 : Int32)), .val (.long ky), .second, .val (.int mn), .val (.int len), .val (.ref ar), .val (.int (2 : Int32)), .val (.int pp), .val (.ref pe), .val (.int (0 : Int32)), .val (.ref pb), .val (.int (1 : Int32)), .val (.int nu), .val (.int (1 : Int32)), .val (.int (1 : Int32)), .unset, .unset]) (q := 436) rfl (hb hby at_434) rfl ?_
    refine k_aload X78 hx (q := 438) rfl (hb hby at_436) rfl rfl ?_
    have G79 := (G76.keep K77 (ninS ne_ar_pb nin0))
    have hrl : (own_raw g ((n + 2) + 0 + 1) (0 + 1)).toInt = ((30 - (n + 2) : Nat) : Int) := by
      rw [own_raw1, show ((n + 2) + 0 + 1) = (n + 2) + 1 by omega, g_p1']; omega
    refine k_callV X78 hx hZ (y := (⟨"com/example/footwise/footwise/osm/Protobuf", "skip", "()V"⟩ : MethodName)) (z := (⟨"com/example/footwise/footwise/osm/Protobuf", "skip", "()V"⟩ : MethodName)) hown (hw _ (List.mem_of_getElem? (i := 50) rfl)) (hw _ (List.mem_of_getElem? (i := 51) rfl)) (notFace_of_selects (args := #[]) (mvT hZ (hw _ (List.mem_of_getElem? (i := 53) rfl)))) (hw _ (List.mem_of_getElem? (i := 53) rfl)) (hw _ (List.mem_of_getElem? (i := 52) rfl)) (hw _ (List.mem_of_getElem? (i := 54) rfl)) (hw _ (List.mem_of_getElem? (i := 14) rfl)) (by decide) P77.1 0 e78 (rm9l l Z a0 hw pb T77.heap n0 ge_pb ar q3 _ 1 P77 ne_ar_pb ((n + 2) + 0 + 1) 32 hq3 (own_nat (by decide)) (by decide) 32 (by decide) g G79 0 (by decide) (fun t ht => by omega) (by rw [Nat.add_zero, show ((n + 2) + 0 + 1) = (n + 2) + 1 by omega, Int32.lt_iff_toInt_lt, g_p1']; have := own_z0; omega) (by omega) (30 - (n + 2)) hrl (by omega)) (by decide) (by decide) (by decide) (by decide) (by rw [hml]; rfl) (a := pb) (as := []) (rest := []) pd_9 rfl (by first | exact Nat.le_refl _ | simp [Value.category]) (q := 441) rfl (hb hby at_438) ?_
    rintro _ T80 L80 X80 ⟨rfl, N80q, K80, q4, hq4, P80⟩
    have N80 := Fr.app N78 N80q
    show End _ _ _ _ _ _ _ (T80.setTop (mkF m 441 #[.val (.int x0), .val (.int x1), .val (.int x2), .val (.int x3), .val (.int nu), .val (.int sel), .val (.int (0 : Int32)), .val (.long ky), .second, .val (.int mn), .val (.int len), .val (.ref ar), .val (.int (2 : Int32)), .val (.int pp), .val (.ref pe), .val (.int (0 : Int32)), .val (.ref pb), .val (.int (1 : Int32)), .val (.int nu), .val (.int (1 : Int32)), .val (.int (1 : Int32)), .unset, .unset] []))
    refine k_aload X80 hx (q := 443) rfl (hb hby at_441) rfl rfl ?_
    refine k_callV X80 hx hZ (y := (⟨"com/example/footwise/footwise/osm/Protobuf", "next", "()Z"⟩ : MethodName)) (z := (⟨"com/example/footwise/footwise/osm/Protobuf", "next", "()Z"⟩ : MethodName)) hown (hw _ (List.mem_of_getElem? (i := 30) rfl)) (hw _ (List.mem_of_getElem? (i := 31) rfl)) (notFace_of_selects (args := #[]) (mvT hZ (hw _ (List.mem_of_getElem? (i := 33) rfl)))) (hw _ (List.mem_of_getElem? (i := 33) rfl)) (hw _ (List.mem_of_getElem? (i := 32) rfl)) (hw _ (List.mem_of_getElem? (i := 34) rfl)) (hw _ (List.mem_of_getElem? (i := 14) rfl)) (by decide) P80.1 0 rfl (rm6e l Z a0 hw pb T80.heap n0 ge_pb ar q4 _ 1 2 P80 ne_ar_pb _ 32 hq4 (own_nat (by decide)) (by decide) (by omega)) (by decide) (by decide) (by decide) (by decide) (by rw [hml]; rfl) (a := pb) (as := []) (rest := []) pd_8 rfl (by first | exact Nat.le_refl _ | simp [Value.category]) (q := 446) rfl (hb hby at_443) ?_
    rintro _ T81 L81 X81 ⟨rfl, N81q, e81⟩
    have N81 := Fr.app N80 N81q
    show End _ _ _ _ _ _ _ (T81.setTop (mkF m 446 #[.val (.int x0), .val (.int x1), .val (.int x2), .val (.int x3), .val (.int nu), .val (.int sel), .val (.int (0 : Int32)), .val (.long ky), .second, .val (.int mn), .val (.int len), .val (.ref ar), .val (.int (2 : Int32)), .val (.int pp), .val (.ref pe), .val (.int (0 : Int32)), .val (.ref pb), .val (.int (1 : Int32)), .val (.int nu), .val (.int (1 : Int32)), .val (.int (1 : Int32)), .unset, .unset] [(.int (0 : Int32))]))
    refine k_istore X81 hx (L' := #[.val (.int x0), .val (.int x1), .val (.int x2), .val (.int x3), .val (.int nu), .val (.int sel), .val (.int (0 : Int32)), .val (.long ky), .second, .val (.int mn), .val (.int len), .val (.ref ar), .val (.int (2 : Int32)), .val (.int pp), .val (.ref pe), .val (.int (0 : Int32)), .val (.ref pb), .val (.int (1 : Int32)), .val (.int nu), .val (.int (1 : Int32)), .val (.int (1 : Int32)), .val (.int (0 : Int32)), .unset]) (q := 448) rfl (hb hby at_446) rfl ?_
    refine k_aload X81 hx (q := 450) rfl (hb hby at_448) rfl rfl ?_
    refine k_callV X81 hx hZ (y := (⟨"com/example/footwise/footwise/osm/Protobuf", "field", "()I"⟩ : MethodName)) (z := (⟨"com/example/footwise/footwise/osm/Protobuf", "field", "()I"⟩ : MethodName)) hown (hw _ (List.mem_of_getElem? (i := 45) rfl)) (hw _ (List.mem_of_getElem? (i := 46) rfl)) (notFace_of_selects (args := #[]) (mvT hZ (hw _ (List.mem_of_getElem? (i := 48) rfl)))) (hw _ (List.mem_of_getElem? (i := 48) rfl)) (hw _ (List.mem_of_getElem? (i := 47) rfl)) (hw _ (List.mem_of_getElem? (i := 49) rfl)) (hw _ (List.mem_of_getElem? (i := 14) rfl)) (by decide) P80.1 0 e81 (rm8 l Z a0 hw pb T80.heap n0 1 P80.2.2.2.2.1) (by decide) (by decide) (by decide) (by decide) (by rw [hml]; rfl) (a := pb) (as := []) (rest := []) pd_3 rfl (by first | exact Nat.le_refl _ | simp [Value.category]) (q := 453) rfl (hb hby at_450) ?_
    rintro _ T82 L82 X82 ⟨rfl, N82q, e82⟩
    have N82 := Fr.app N81 N82q
    show End _ _ _ _ _ _ _ (T82.setTop (mkF m 453 #[.val (.int x0), .val (.int x1), .val (.int x2), .val (.int x3), .val (.int nu), .val (.int sel), .val (.int (0 : Int32)), .val (.long ky), .second, .val (.int mn), .val (.int len), .val (.ref ar), .val (.int (2 : Int32)), .val (.int pp), .val (.ref pe), .val (.int (0 : Int32)), .val (.ref pb), .val (.int (1 : Int32)), .val (.int nu), .val (.int (1 : Int32)), .val (.int (1 : Int32)), .val (.int (0 : Int32)), .unset] [(.int (1 : Int32))]))
    refine k_istore X82 hx (L' := #[.val (.int x0), .val (.int x1), .val (.int x2), .val (.int x3), .val (.int nu), .val (.int sel), .val (.int (0 : Int32)), .val (.long ky), .second, .val (.int mn), .val (.int len), .val (.ref ar), .val (.int (2 : Int32)), .val (.int pp), .val (.ref pe), .val (.int (0 : Int32)), .val (.ref pb), .val (.int (1 : Int32)), .val (.int nu), .val (.int (1 : Int32)), .val (.int (1 : Int32)), .val (.int (0 : Int32)), .val (.int (1 : Int32))]) (q := 455) rfl (hb hby at_453) rfl ?_
    refine k_iload X82 hx (q := 457) rfl (hb hby at_455) rfl ?_
    refine k_if_ne X82 hx (q1 := 498) (q := 460) (by decide) (by decide) rfl (hb hby at_457) (fun hc => absurd rfl hc) (fun _ => ?_)
    refine k_iload X82 hx (q := 462) rfl (hb hby at_460) rfl ?_
    refine k_if_eq X82 hx (q1 := 498) (q := 465) (by decide) (by decide) rfl (hb hby at_462) (fun hc => absurd hc (by decide)) (fun _ => ?_)
    refine k_iload X82 hx (q := 467) rfl (hb hby at_465) rfl ?_
    refine k_iload X82 hx (q := 469) rfl (hb hby at_467) rfl ?_
    refine k_icmp_ne X82 hx (q1 := 498) (q := 472) (by decide) (by decide) rfl (hb hby at_469) (fun hc => absurd rfl hc) (fun _ => ?_)
    refine k_iload X82 hx (q := 474) rfl (hb hby at_472) rfl ?_
    refine k_if_eq X82 hx (q1 := 498) (q := 477) (by decide) (by decide) rfl (hb hby at_474) (fun hc => absurd hc (by decide)) (fun _ => ?_)
    refine k_iload X82 hx (q := 479) rfl (hb hby at_477) rfl ?_
    refine k_iconst X82 hx (v := (1 : Int32)) rfl (q := 480) rfl (hb hby at_479) ?_
    refine k_icmp_ne X82 hx (q1 := 498) (q := 483) (by decide) (by decide) rfl (hb hby at_480) (fun hc => absurd rfl hc) (fun _ => ?_)
    refine k_iload X82 hx (q := 485) rfl (hb hby at_483) rfl ?_
    refine k_if_ne X82 hx (q1 := 498) (q := 488) (by decide) (by decide) rfl (hb hby at_485) (fun hc => absurd rfl hc) (fun _ => ?_)
    refine k_iload X82 hx (q := 490) rfl (hb hby at_488) rfl ?_
    refine k_iconst X82 hx (v := (1 : Int32)) rfl (q := 491) rfl (hb hby at_490) ?_
    refine k_icmp_ne X82 hx (q1 := 498) (q := 494) (by decide) (by decide) rfl (hb hby at_491) (fun hc => absurd rfl hc) (fun _ => ?_)
    refine k_iconst X82 hx (v := (1 : Int32)) rfl (q := 495) rfl (hb hby at_494) ?_
    refine k_goto X82 hx (q := 499) (by decide) (by decide) (hb hby at_495) ?_
    exact k_retN X82 hx (t := .boolean) hlk (by decide) (by decide) hret (by simp) (hb hby at_499) ⟨rfl, N82⟩
set_option maxRecDepth 65536 in
set_option maxHeartbeats 40000000 in
theorem comes_1 {Post : Tables → Env → Array Value → State → Outcome → State → Prop} (hpost : ∀ tb e args s v u, (limb_1_1.after args s (.returned v) u = true ∧ limb_1_2.after args s (.returned v) u = true ∧ True) → FrameEnd s (.returned v) u (Jvm.fieldLocs frame_1_writes args s ++ Jvm.arrayLocs frame_1_arrays args s ++ Jvm.staticLocs frame_1_statics s) 16 192 → Post tb e args s (.returned v) u) :
    ArmFor flags0 classFile x code maxLocals ret World_1 tables_1 room_1 Calls_1 rest_1 Pre_1 Post := by
  intro l hfl _ _ p e ha hc hk s m args below hf hA hF happ hP
  obtain ⟨hcalls, hrest, hpre⟩ := hP
  obtain ⟨-, -, -, hnamed, -, -, -, hat⟩ := (Spec.applies_iff hf).mp happ
  obtain ⟨hg, hn⟩ := and_e (Cond.before_iff.mp (show (Jvm.Cond.and given_1 narrow_1).before args s = true from hpre))
  obtain ⟨gc, g0⟩ := and_e hg
  obtain ⟨a0, g1⟩ := and_e g0
  obtain ⟨a1, g2⟩ := and_e g1
  obtain ⟨a2, g3⟩ := and_e g2
  obtain ⟨w0, w1, w2, w3, rfl⟩ : ∃ w0 w1 w2 w3 : Value, args = #[w0, w1, w2, w3] := by
    have hs : args.size = 4 := by simpa [Cond.value, given_1] using gc
    obtain ⟨L⟩ := args
    match L, hs with
    | [w0, w1, w2, w3], _ => exact ⟨w0, w1, w2, w3, rfl⟩
  have hw := fun d (hd : d ∈ tables_1) => atoms_spec (ws := Jvm.Cond.code x code maxLocals ret :: tables_1) hat d (List.mem_cons_of_mem _ hd)
  have hfit : Fit s := fun {y c} hc i hi => by
    obtain ⟨ha, rfl⟩ := Array.getElem?_eq_some_iff.mp hc
    have q := List.all_eq_true.mp ((Array.all_eq_true_iff_forall_mem.mp hF) _ (Array.getElem_mem ha)) i (List.mem_range.mpr hi)
    simpa [Array.getElem?_eq_getElem hi] using q
  obtain ⟨i0, ei0⟩ := is_v a0
  obtain rfl : w0 = (.int i0) := Option.some.inj ei0
  obtain ⟨i1, ei1⟩ := is_v a1
  obtain rfl : w1 = (.int i1) := Option.some.inj ei1
  obtain ⟨i2, ei2⟩ := is_v a2
  obtain rfl : w2 = (.int i2) := Option.some.inj ei2
  obtain ⟨i3, ei3⟩ := is_v g3
  obtain rfl : w3 = (.int i3) := Option.some.inj ei3
  obtain ⟨n, o, h1, h2, h3, _, L, rfl, ⟨rfl, N⟩, hq⟩ := rmL l s _ hw i0 i1 i2 i3 s.heap s.heap.size (Nat.le_refl _) p e ha hc hk s m _ below hf ((Spec.applies_iff_loose hf).mp happ).1 ⟨rfl, State.Warmed39.refl s, rfl⟩ trivial
  refine ⟨n, _, h1, h2, h3, hpost _ _ _ _ _ _ ⟨Cond.after_iff.mpr rfl, Cond.after_iff.mpr (eq_i res_at (Term.int_eval (1)) rfl), trivial⟩ ⟨hq.1, hq.2.1, (hq.2.2.sift fun y hy => Or.inr (N y hy)).mono (by decide) (by decide)⟩⟩
theorem main_1_1 : Claimed_1_1 := comes_1 fun _ _ _ _ _ _ h hF => ⟨h.1, hF⟩
theorem main_1_2 : Claimed_1_2 := comes_1 fun _ _ _ _ _ _ h hF => ⟨h.2.1, hF⟩
end Jvm.Pilot.@@N@@
namespace Jvm.Pilot.@@N@@
open Jvm Jvm.ClassFile Sem Op Lib Jvm.Free Jvm.Stand Jvm.Pilot.@@N@@.Jvm.D
/-! MADE BY PROGRAM (witnessworld.py) out of the Statement's table words and the real class files: 9 classes; the members and pool entries that the words name. The judged class is class 1, her method 3. -/
namespace start1
open Jvm.ClassFile
def u (s : String) : CpInfo := .utf8 (stringToUtf16 s)
/-- a pool by its gaps: so many unusable entries, then the entry; so many at the end -/
def gap : Nat → List CpInfo → List CpInfo
  | 0, r => r
  | n + 1, r => .unusable :: gap n r
def poolList (es : List (Nat × CpInfo)) (last : Nat) : List CpInfo := es.foldr (fun e r => gap e.1 (e.2 :: r)) (gap last [])
def pool (es : List (Nat × CpInfo)) (last : Nat) : Array CpInfo := ⟨poolList es last⟩
def fileOf (pool : Array CpInfo) (this : Nat) (attrs : Array Attribute := #[]) (ms : Array MethodInfo := #[]) (fl : Nat := 33) (sup : Nat := 0) (ifs : Array Nat := #[]) (fds : Array FieldInfo := #[]) : ClassFile where
  minorVersion := 0
  majorVersion := 65
  constantPool := pool
  accessFlags := fl
  thisClass := this
  superClass := sup
  interfaces := ifs
  fields := fds
  methods := ms
  attributes := attrs
def plain (name : String) (sup : Option ClassId) : Class where
  name := name
  kind := .ordinary
  loader := none
  accessFlags := 33
  super := sup
  interfaces := #[]
  cf := none
  fields := #[]
  methods := #[]
  instanceTypes := #[]
  staticTypes := #[]
  resolved := #[]
  callSites := []
  init := .initialized
  statics := none
  mirror := none

def pool0 : Array CpInfo := pool [(5, u "<init>"), (0, u "()V"), (1, .class_ 10), (1, u "java/lang/Object")] 113

def k0c0 : Code := { maxStack := 0, maxLocals := 1, code := object_method_1_code, exceptionTable := #[], attributes := #[] }
def k0m0 : Method := { name := "<init>", desc := "()V", sig := { parameters := [], returnType := none }, accessFlags := 1, code := some k0c0 }
/-- java/lang/Object -/
def k0 : Class := { plain "java/lang/Object" none with
  accessFlags := 33
  interfaces := #[]
  cf := some (fileOf pool0 8 #[] #[{ accessFlags := 1, nameIndex := 5, descriptorIndex := 6, attributes := #[] }] 33 0 #[] #[])
  fields := #[]
  methods := #[k0m0]
  instanceTypes := #[]
  staticTypes := #[]
  resolved := Array.replicate 124 none
  statics := none }

def pool1 : Array CpInfo := pool [(2, .class_ 4), (1, u "java/lang/Object"), (0, u "<init>"), (0, u "()V"), (0, .long 127), (1, .long 128), (1, .long 16384), (1, .long 2097152), (1, .long 268435456), (1, .integer 2147483647), (0, .integer 536870911), (0, .methodref 20 21), (0, .class_ 22), (0, .nameAndType 23 24), (0, u "com/example/footwise/footwise/osm/ProtobufNextPinLaw"), (0, u "minLen"), (0, u "(J)I"), (0, .methodref 20 26), (0, .nameAndType 27 28), (0, u "enc"), (0, u "(JII)B"), (0, .class_ 30), (0, u "com/example/footwise/footwise/osm/Protobuf"), (0, .methodref 29 32), (0, .nameAndType 5 33), (0, u "([B)V"), (0, .methodref 29 35), (0, .nameAndType 36 37), (0, u "next"), (0, u "()Z"), (0, .methodref 29 39), (0, .nameAndType 40 41), (0, u "field"), (0, u "()I"), (0, .methodref 29 43), (0, .nameAndType 44 6), (0, u "skip"), (3, u "law"), (0, u "(IIII)Z")] 7

def k1m0 : Method := { name := "<init>", desc := "()V", sig := { parameters := [], returnType := none }, accessFlags := 2, code := none }
def k1c1 : Code := { maxStack := 4, maxLocals := 5, code := method_2_code, exceptionTable := #[], attributes := #[] }
def k1m1 : Method := { name := "enc", desc := "(JII)B", sig := { parameters := [.long, .int, .int], returnType := some .byte }, accessFlags := 10, code := some k1c1 }
def k1c2 : Code := { maxStack := 4, maxLocals := 2, code := method_3_code, exceptionTable := #[], attributes := #[] }
def k1m2 : Method := { name := "minLen", desc := "(J)I", sig := { parameters := [.long], returnType := some .int }, accessFlags := 10, code := some k1c2 }
def k1c3 : Code := { maxStack := 6, maxLocals := 23, code := code, exceptionTable := #[], attributes := #[] }
def k1m3 : Method := { name := "law", desc := "(IIII)Z", sig := { parameters := [.int, .int, .int, .int], returnType := some .boolean }, accessFlags := 9, code := some k1c3 }
/-- com/example/footwise/footwise/osm/ProtobufNextPinLaw -/
def k1 : Class := { plain "com/example/footwise/footwise/osm/ProtobufNextPinLaw" (some 0) with
  accessFlags := 49
  interfaces := #[]
  cf := some (fileOf pool1 20 #[] #[{ accessFlags := 2, nameIndex := 5, descriptorIndex := 6, attributes := #[] }, { accessFlags := 10, nameIndex := 27, descriptorIndex := 28, attributes := #[] }, { accessFlags := 10, nameIndex := 23, descriptorIndex := 24, attributes := #[] }, { accessFlags := 9, nameIndex := 48, descriptorIndex := 49, attributes := #[] }] 49 2 #[] #[])
  fields := #[]
  methods := #[k1m0, k1m1, k1m2, k1m3]
  instanceTypes := #[]
  staticTypes := #[]
  resolved := Array.replicate 57 none
  statics := none }

def pool2 : Array CpInfo := pool [(1, .methodref 2 3), (0, .class_ 4), (0, .nameAndType 5 6), (0, u "com/example/footwise/footwise/osm/Protobuf"), (0, u "<init>"), (0, u "([BII)V"), (0, .methodref 8 9), (0, .class_ 10), (0, .nameAndType 5 11), (0, u "java/lang/Object"), (0, u "()V"), (0, .fieldref 2 13), (0, .nameAndType 14 15), (0, u "bytes"), (0, u "[B"), (0, .fieldref 2 17), (0, .nameAndType 18 19), (0, u "position"), (0, u "I"), (0, .fieldref 2 21), (0, .nameAndType 22 19), (0, u "end"), (0, .methodref 2 24), (0, .nameAndType 25 26), (0, u "rawVarint"), (0, u "()J"), (0, .long 536870911), (10, .fieldref 2 39), (0, .nameAndType 40 19), (0, u "field"), (0, .long 7), (1, .fieldref 2 44), (0, .nameAndType 45 19), (0, u "wireType"), (0, .methodref 2 47), (0, .nameAndType 48 49), (0, u "expect"), (0, u "(I)V"), (7, .methodref 2 58), (0, .nameAndType 59 60), (0, u "length"), (0, u "()I"), (31, .methodref 2 93), (0, .nameAndType 94 49), (0, u "advance"), (6, .methodref 2 102), (0, .nameAndType 103 104), (0, u "requireLeft"), (0, u "(J)V"), (7, u "VARINT"), (2, u "FIXED64"), (1, u "LENGTH_DELIMITED"), (1, u "FIXED32"), (1, u "VARINT_MAX_BYTES"), (1, u "FIELD_MAX"), (0, u "J"), (0, u "([B)V"), (2, u "next"), (0, u "()Z"), (9, u "skip")] 26

def k2c0 : Code := { maxStack := 4, maxLocals := 2, code := prog_23_method_1_code, exceptionTable := #[], attributes := #[] }
def k2m0 : Method := { name := "<init>", desc := "([B)V", sig := { parameters := [(.array .byte)], returnType := none }, accessFlags := 0, code := some k2c0 }
def k2c1 : Code := { maxStack := 2, maxLocals := 4, code := prog_23_method_2_code, exceptionTable := #[], attributes := #[] }
def k2m1 : Method := { name := "<init>", desc := "([BII)V", sig := { parameters := [(.array .byte), .int, .int], returnType := none }, accessFlags := 2, code := some k2c1 }
def k2c2 : Code := { maxStack := 5, maxLocals := 5, code := prog_23_method_3_code, exceptionTable := #[], attributes := #[] }
def k2m2 : Method := { name := "next", desc := "()Z", sig := { parameters := [], returnType := some .boolean }, accessFlags := 0, code := some k2c2 }
def k2c3 : Code := { maxStack := 1, maxLocals := 1, code := prog_23_method_4_code, exceptionTable := #[], attributes := #[] }
def k2m3 : Method := { name := "field", desc := "()I", sig := { parameters := [], returnType := some .int }, accessFlags := 0, code := some k2c3 }
def k2c4 : Code := { maxStack := 4, maxLocals := 1, code := prog_23_method_13_code, exceptionTable := #[], attributes := #[] }
def k2m4 : Method := { name := "skip", desc := "()V", sig := { parameters := [], returnType := none }, accessFlags := 0, code := some k2c4 }
def k2c5 : Code := { maxStack := 5, maxLocals := 2, code := prog_23_method_14_code, exceptionTable := #[], attributes := #[] }
def k2m5 : Method := { name := "expect", desc := "(I)V", sig := { parameters := [.int], returnType := none }, accessFlags := 2, code := some k2c5 }
def k2c6 : Code := { maxStack := 3, maxLocals := 3, code := prog_23_method_15_code, exceptionTable := #[], attributes := #[] }
def k2m6 : Method := { name := "length", desc := "()I", sig := { parameters := [], returnType := some .int }, accessFlags := 2, code := some k2c6 }
def k2c7 : Code := { maxStack := 3, maxLocals := 2, code := prog_23_method_16_code, exceptionTable := #[], attributes := #[] }
def k2m7 : Method := { name := "advance", desc := "(I)V", sig := { parameters := [.int], returnType := none }, accessFlags := 2, code := some k2c7 }
def k2c8 : Code := { maxStack := 4, maxLocals := 3, code := prog_23_method_17_code, exceptionTable := #[], attributes := #[] }
def k2m8 : Method := { name := "requireLeft", desc := "(J)V", sig := { parameters := [.long], returnType := none }, accessFlags := 2, code := some k2c8 }
def k2c9 : Code := { maxStack := 6, maxLocals := 5, code := prog_23_method_18_code, exceptionTable := #[], attributes := #[] }
def k2m9 : Method := { name := "rawVarint", desc := "()J", sig := { parameters := [], returnType := some .long }, accessFlags := 2, code := some k2c9 }
/-- com/example/footwise/footwise/osm/Protobuf -/
def k2 : Class := { plain "com/example/footwise/footwise/osm/Protobuf" (some 0) with
  accessFlags := 48
  interfaces := #[]
  cf := some (fileOf pool2 2 #[] #[{ accessFlags := 0, nameIndex := 5, descriptorIndex := 125, attributes := #[] }, { accessFlags := 2, nameIndex := 5, descriptorIndex := 6, attributes := #[] }, { accessFlags := 0, nameIndex := 128, descriptorIndex := 129, attributes := #[] }, { accessFlags := 0, nameIndex := 40, descriptorIndex := 60, attributes := #[] }, { accessFlags := 0, nameIndex := 139, descriptorIndex := 11, attributes := #[] }, { accessFlags := 2, nameIndex := 48, descriptorIndex := 49, attributes := #[] }, { accessFlags := 2, nameIndex := 59, descriptorIndex := 60, attributes := #[] }, { accessFlags := 2, nameIndex := 94, descriptorIndex := 49, attributes := #[] }, { accessFlags := 2, nameIndex := 103, descriptorIndex := 104, attributes := #[] }, { accessFlags := 2, nameIndex := 25, descriptorIndex := 26, attributes := #[] }] 48 8 #[] #[{ accessFlags := 26, nameIndex := 112, descriptorIndex := 19, attributes := #[] }, { accessFlags := 26, nameIndex := 115, descriptorIndex := 19, attributes := #[] }, { accessFlags := 26, nameIndex := 117, descriptorIndex := 19, attributes := #[] }, { accessFlags := 26, nameIndex := 119, descriptorIndex := 19, attributes := #[] }, { accessFlags := 26, nameIndex := 121, descriptorIndex := 19, attributes := #[] }, { accessFlags := 26, nameIndex := 123, descriptorIndex := 124, attributes := #[] }, { accessFlags := 18, nameIndex := 14, descriptorIndex := 15, attributes := #[] }, { accessFlags := 18, nameIndex := 22, descriptorIndex := 19, attributes := #[] }, { accessFlags := 2, nameIndex := 18, descriptorIndex := 19, attributes := #[] }, { accessFlags := 2, nameIndex := 40, descriptorIndex := 19, attributes := #[] }, { accessFlags := 2, nameIndex := 45, descriptorIndex := 19, attributes := #[] }])
  fields := #[{ name := "VARINT", type := .int, accessFlags := 26, slot := 0, constantValue := 0 }, { name := "FIXED64", type := .int, accessFlags := 26, slot := 1, constantValue := 0 }, { name := "LENGTH_DELIMITED", type := .int, accessFlags := 26, slot := 2, constantValue := 0 }, { name := "FIXED32", type := .int, accessFlags := 26, slot := 3, constantValue := 0 }, { name := "VARINT_MAX_BYTES", type := .int, accessFlags := 26, slot := 4, constantValue := 0 }, { name := "FIELD_MAX", type := .long, accessFlags := 26, slot := 5, constantValue := 0 }, { name := "bytes", type := (.array .byte), accessFlags := 18, slot := 0, constantValue := 0 }, { name := "end", type := .int, accessFlags := 18, slot := 1, constantValue := 0 }, { name := "position", type := .int, accessFlags := 2, slot := 2, constantValue := 0 }, { name := "field", type := .int, accessFlags := 2, slot := 3, constantValue := 0 }, { name := "wireType", type := .int, accessFlags := 2, slot := 4, constantValue := 0 }]
  methods := #[k2m0, k2m1, k2m2, k2m3, k2m4, k2m5, k2m6, k2m7, k2m8, k2m9]
  instanceTypes := #[(.array .byte), .int, .int, .int, .int]
  staticTypes := #[.int, .int, .int, .int, .int, .long]
  resolved := Array.replicate 166 none
  statics := none }

def pool3 : Array CpInfo := pool [(1, u "java/lang/Cloneable"), (0, .class_ 1), (0, u "java/lang/Object"), (0, .class_ 3)] 3

/-- java/lang/Cloneable -/
def k3 : Class := { plain "java/lang/Cloneable" (some 0) with
  accessFlags := 1537
  interfaces := #[]
  cf := some (fileOf pool3 2 #[] #[] 1537 4 #[] #[])
  fields := #[]
  methods := #[]
  instanceTypes := #[]
  staticTypes := #[]
  resolved := Array.replicate 8 none
  statics := none }

def pool4 : Array CpInfo := pool [(1, u "java/io/Serializable"), (0, .class_ 1), (0, u "java/lang/Object"), (0, .class_ 3)] 3

/-- java/io/Serializable -/
def k4 : Class := { plain "java/io/Serializable" (some 0) with
  accessFlags := 1537
  interfaces := #[]
  cf := some (fileOf pool4 2 #[] #[] 1537 4 #[] #[])
  fields := #[]
  methods := #[]
  instanceTypes := #[]
  staticTypes := #[]
  resolved := Array.replicate 8 none
  statics := none }

/-- the primitive byte -/
def k5 : Class := { plain "byte" none with kind := .primitive 'B', accessFlags := 0x411 }
/-- [B -/
def k6 : Class := { plain "[B" (some 0) with kind := .array 5 .byte, interfaces := #[3, 4], accessFlags := 1041 }

/-- the primitive int -/
def k7 : Class := { plain "int" none with kind := .primitive 'I', accessFlags := 0x411 }
/-- [I -/
def k8 : Class := { plain "[I" (some 0) with kind := .array 7 .int, interfaces := #[3, 4], accessFlags := 1041 }

def heap : Heap := #[]
def classes : Array Class := #[k0, k1, k2, k3, k4, k5, k6, k7, k8]
def interned : List (Array UInt16 × Addr) := []
def slotsUsed : Nat := 0
def theMethod : MethodId := ⟨1, 3⟩
def args0 : Array Value := #[.int 5, .int 0, .int 9, .int 3]
def aboutOver (below : List Frame) : State where
  vm := { classes := classes, interned := interned.toArray }
  heap := heap
  slotsUsed := slotsUsed
  threads := #[{ frames := .invoking theMethod args0 :: below }]
def below0 : List Frame := [.native { method := ⟨0, 0⟩, args := #[] }]
def about1 : State := aboutOver below0
def p0 : Program := .bare "" "" ""
def e0 : Env := launch0.env 0 0 0
theorem w_frames : about1.frames = Frame.invoking theMethod args0 :: below0 := rfl
set_option maxRecDepth 65536 in
theorem w_args : argsFit about1.vm theMethod args0 = true := by decide +kernel
set_option maxRecDepth 65536 in
theorem w_heap : heapFits about1 = true := by decide +kernel
set_option maxRecDepth 65536 in
theorem w_runnable : about1.curStatus? = some .runnable := by decide +kernel
set_option maxRecDepth 65536 in
theorem w_alone : about1.alone = true := by decide +kernel
set_option maxRecDepth 65536 in
theorem w_named : about1.methodNamed? x = some theMethod := by decide +kernel
set_option maxRecDepth 65536 in
theorem w_hears : about1.hears theMethod below0 = true := by decide +kernel
set_option maxRecDepth 65536 in
theorem w_ripe : about1.ripe theMethod args0 below0 = true := by decide +kernel
theorem w_running : about1.status = .running := rfl
set_option maxRecDepth 65536 in
theorem w_room : about1.hasRoom e0.platform room_1 = true :=
  launch0.hasRoom_least _ room_1 (by decide +kernel) (by decide +kernel) (by decide +kernel) (by decide +kernel) (by decide +kernel) (by decide +kernel)
theorem allAtoms_all (ts : List Jvm.Cond) (a : Array Jvm.Value) (st : Jvm.State) : (allAtoms ts).before a st = ts.all (fun c => c.before a st) := by
  induction ts with
  | nil => rfl
  | cons c t ih =>
    show (Jvm.Cond.and c (allAtoms t)).before a st = _
    rw [Jvm.Cond.before_and, ih, List.all_cons]
def words1 : List Jvm.Cond := Jvm.Cond.code x code maxLocals ret :: tables_1
/-- a 'code' word, met by the world's own term for the bytes: nothing is compared byte by byte -/
theorem code_word {y : MethodName} {bytes : ByteArray} {mx : Nat} {rt : Option FieldType} {a : Array Value} {s : State} {m : MethodId} {meth : Method} {c : Code} (h1 : s.methodNamed? y = some m) (h2 : s.vm.method? m = some meth) (h3 : meth.code = some c) (h4 : c.code = bytes)
    (h5 : (c.maxLocals == mx && c.exceptionTable.isEmpty && decide (c.maxStack ≤ mostOperands) && decide (meth.sig.returnType = rt) && !meth.locks && decide (parseMethodDescriptor y.desc = some meth.sig)) = true) : (Jvm.Cond.code y bytes mx rt).before a s = true := by
  simp only [Bool.and_eq_true, beq_iff_eq, Bool.not_eq_true', decide_eq_true_eq] at h5
  obtain ⟨⟨⟨⟨⟨g1, g2⟩, g3⟩, g4⟩, g5⟩, g6⟩ := h5
  simp [Cond.before, Cond.holds, Cond.value, h1, h2, h3, h4, g1, g2, g3, g4, g5, g6]
def isCode : Jvm.Cond → Bool
  | .code _ _ _ _ => true
  | _ => false
theorem all_split {L : List Jvm.Cond} {P : Jvm.Cond → Bool} (h1 : L.all (fun c => isCode c || P c) = true) (h2 : ∀ c ∈ L.filter isCode, P c = true) : L.all P = true := by
  refine List.all_eq_true.mpr fun c hc => ?_
  have h := List.all_eq_true.mp h1 c hc
  rcases Bool.eq_false_or_eq_true (isCode c) with hi | hi
  · exact h2 c (List.mem_filter.mpr ⟨hc, hi⟩)
  · simpa [hi] using h
set_option maxRecDepth 65536 in
theorem w_c0 : (Jvm.Cond.code x code maxLocals ret).before args0 about1 = true := code_word (m := ⟨1, 3⟩) (meth := k1m3) (c := k1c3) (by decide +kernel) rfl rfl rfl (by decide +kernel)
set_option maxRecDepth 65536 in
theorem w_c1 : (Jvm.Cond.code ({ cls := "com/example/footwise/footwise/osm/ProtobufNextPinLaw", name := "minLen", desc := "(J)I" } : Jvm.MethodName) method_3_code (2 : Nat) (Option.some Jvm.ClassFile.FieldType.int)).before args0 about1 = true := code_word (m := ⟨1, 2⟩) (meth := k1m2) (c := k1c2) (by decide +kernel) rfl rfl rfl (by decide +kernel)
set_option maxRecDepth 65536 in
theorem w_c2 : (Jvm.Cond.code ({ cls := "com/example/footwise/footwise/osm/ProtobufNextPinLaw", name := "enc", desc := "(JII)B" } : Jvm.MethodName) method_2_code (5 : Nat) (Option.some Jvm.ClassFile.FieldType.byte)).before args0 about1 = true := code_word (m := ⟨1, 1⟩) (meth := k1m1) (c := k1c1) (by decide +kernel) rfl rfl rfl (by decide +kernel)
set_option maxRecDepth 65536 in
theorem w_c3 : (Jvm.Cond.code ({ cls := "com/example/footwise/footwise/osm/Protobuf", name := "<init>", desc := "([B)V" } : Jvm.MethodName) prog_23_method_1_code (2 : Nat) (Option.none : Option Jvm.ClassFile.FieldType)).before args0 about1 = true := code_word (m := ⟨2, 0⟩) (meth := k2m0) (c := k2c0) (by decide +kernel) rfl rfl rfl (by decide +kernel)
set_option maxRecDepth 65536 in
theorem w_c4 : (Jvm.Cond.code ({ cls := "com/example/footwise/footwise/osm/Protobuf", name := "<init>", desc := "([BII)V" } : Jvm.MethodName) prog_23_method_2_code (4 : Nat) (Option.none : Option Jvm.ClassFile.FieldType)).before args0 about1 = true := code_word (m := ⟨2, 1⟩) (meth := k2m1) (c := k2c1) (by decide +kernel) rfl rfl rfl (by decide +kernel)
set_option maxRecDepth 65536 in
theorem w_c5 : (Jvm.Cond.code ({ cls := "java/lang/Object", name := "<init>", desc := "()V" } : Jvm.MethodName) object_method_1_code (1 : Nat) (Option.none : Option Jvm.ClassFile.FieldType)).before args0 about1 = true := code_word (m := ⟨0, 0⟩) (meth := k0m0) (c := k0c0) (by decide +kernel) rfl rfl rfl (by decide +kernel)
set_option maxRecDepth 65536 in
theorem w_c6 : (Jvm.Cond.code ({ cls := "com/example/footwise/footwise/osm/Protobuf", name := "next", desc := "()Z" } : Jvm.MethodName) prog_23_method_3_code (5 : Nat) (Option.some Jvm.ClassFile.FieldType.boolean)).before args0 about1 = true := code_word (m := ⟨2, 2⟩) (meth := k2m2) (c := k2c2) (by decide +kernel) rfl rfl rfl (by decide +kernel)
set_option maxRecDepth 65536 in
theorem w_c7 : (Jvm.Cond.code ({ cls := "com/example/footwise/footwise/osm/Protobuf", name := "rawVarint", desc := "()J" } : Jvm.MethodName) prog_23_method_18_code (5 : Nat) (Option.some Jvm.ClassFile.FieldType.long)).before args0 about1 = true := code_word (m := ⟨2, 9⟩) (meth := k2m9) (c := k2c9) (by decide +kernel) rfl rfl rfl (by decide +kernel)
set_option maxRecDepth 65536 in
theorem w_c8 : (Jvm.Cond.code ({ cls := "com/example/footwise/footwise/osm/Protobuf", name := "field", desc := "()I" } : Jvm.MethodName) prog_23_method_4_code (1 : Nat) (Option.some Jvm.ClassFile.FieldType.int)).before args0 about1 = true := code_word (m := ⟨2, 3⟩) (meth := k2m3) (c := k2c3) (by decide +kernel) rfl rfl rfl (by decide +kernel)
set_option maxRecDepth 65536 in
theorem w_c9 : (Jvm.Cond.code ({ cls := "com/example/footwise/footwise/osm/Protobuf", name := "skip", desc := "()V" } : Jvm.MethodName) prog_23_method_13_code (1 : Nat) (Option.none : Option Jvm.ClassFile.FieldType)).before args0 about1 = true := code_word (m := ⟨2, 4⟩) (meth := k2m4) (c := k2c4) (by decide +kernel) rfl rfl rfl (by decide +kernel)
set_option maxRecDepth 65536 in
theorem w_c10 : (Jvm.Cond.code ({ cls := "com/example/footwise/footwise/osm/Protobuf", name := "advance", desc := "(I)V" } : Jvm.MethodName) prog_23_method_16_code (2 : Nat) (Option.none : Option Jvm.ClassFile.FieldType)).before args0 about1 = true := code_word (m := ⟨2, 7⟩) (meth := k2m7) (c := k2c7) (by decide +kernel) rfl rfl rfl (by decide +kernel)
set_option maxRecDepth 65536 in
theorem w_c11 : (Jvm.Cond.code ({ cls := "com/example/footwise/footwise/osm/Protobuf", name := "requireLeft", desc := "(J)V" } : Jvm.MethodName) prog_23_method_17_code (3 : Nat) (Option.none : Option Jvm.ClassFile.FieldType)).before args0 about1 = true := code_word (m := ⟨2, 8⟩) (meth := k2m8) (c := k2c8) (by decide +kernel) rfl rfl rfl (by decide +kernel)
set_option maxRecDepth 65536 in
theorem w_c12 : (Jvm.Cond.code ({ cls := "com/example/footwise/footwise/osm/Protobuf", name := "length", desc := "()I" } : Jvm.MethodName) prog_23_method_15_code (3 : Nat) (Option.some Jvm.ClassFile.FieldType.int)).before args0 about1 = true := code_word (m := ⟨2, 6⟩) (meth := k2m6) (c := k2c6) (by decide +kernel) rfl rfl rfl (by decide +kernel)
set_option maxRecDepth 65536 in
theorem w_c13 : (Jvm.Cond.code ({ cls := "com/example/footwise/footwise/osm/Protobuf", name := "expect", desc := "(I)V" } : Jvm.MethodName) prog_23_method_14_code (2 : Nat) (Option.none : Option Jvm.ClassFile.FieldType)).before args0 about1 = true := code_word (m := ⟨2, 5⟩) (meth := k2m5) (c := k2c5) (by decide +kernel) rfl rfl rfl (by decide +kernel)
def codes1 : List Jvm.Cond := [Jvm.Cond.code x code maxLocals ret, Jvm.Cond.code ({ cls := "com/example/footwise/footwise/osm/ProtobufNextPinLaw", name := "minLen", desc := "(J)I" } : Jvm.MethodName) method_3_code (2 : Nat) (Option.some Jvm.ClassFile.FieldType.int), Jvm.Cond.code ({ cls := "com/example/footwise/footwise/osm/ProtobufNextPinLaw", name := "enc", desc := "(JII)B" } : Jvm.MethodName) method_2_code (5 : Nat) (Option.some Jvm.ClassFile.FieldType.byte), Jvm.Cond.code ({ cls := "com/example/footwise/footwise/osm/Protobuf", name := "<init>", desc := "([B)V" } : Jvm.MethodName) prog_23_method_1_code (2 : Nat) (Option.none : Option Jvm.ClassFile.FieldType), Jvm.Cond.code ({ cls := "com/example/footwise/footwise/osm/Protobuf", name := "<init>", desc := "([BII)V" } : Jvm.MethodName) prog_23_method_2_code (4 : Nat) (Option.none : Option Jvm.ClassFile.FieldType), Jvm.Cond.code ({ cls := "java/lang/Object", name := "<init>", desc := "()V" } : Jvm.MethodName) object_method_1_code (1 : Nat) (Option.none : Option Jvm.ClassFile.FieldType), Jvm.Cond.code ({ cls := "com/example/footwise/footwise/osm/Protobuf", name := "next", desc := "()Z" } : Jvm.MethodName) prog_23_method_3_code (5 : Nat) (Option.some Jvm.ClassFile.FieldType.boolean), Jvm.Cond.code ({ cls := "com/example/footwise/footwise/osm/Protobuf", name := "rawVarint", desc := "()J" } : Jvm.MethodName) prog_23_method_18_code (5 : Nat) (Option.some Jvm.ClassFile.FieldType.long), Jvm.Cond.code ({ cls := "com/example/footwise/footwise/osm/Protobuf", name := "field", desc := "()I" } : Jvm.MethodName) prog_23_method_4_code (1 : Nat) (Option.some Jvm.ClassFile.FieldType.int), Jvm.Cond.code ({ cls := "com/example/footwise/footwise/osm/Protobuf", name := "skip", desc := "()V" } : Jvm.MethodName) prog_23_method_13_code (1 : Nat) (Option.none : Option Jvm.ClassFile.FieldType), Jvm.Cond.code ({ cls := "com/example/footwise/footwise/osm/Protobuf", name := "advance", desc := "(I)V" } : Jvm.MethodName) prog_23_method_16_code (2 : Nat) (Option.none : Option Jvm.ClassFile.FieldType), Jvm.Cond.code ({ cls := "com/example/footwise/footwise/osm/Protobuf", name := "requireLeft", desc := "(J)V" } : Jvm.MethodName) prog_23_method_17_code (3 : Nat) (Option.none : Option Jvm.ClassFile.FieldType), Jvm.Cond.code ({ cls := "com/example/footwise/footwise/osm/Protobuf", name := "length", desc := "()I" } : Jvm.MethodName) prog_23_method_15_code (3 : Nat) (Option.some Jvm.ClassFile.FieldType.int), Jvm.Cond.code ({ cls := "com/example/footwise/footwise/osm/Protobuf", name := "expect", desc := "(I)V" } : Jvm.MethodName) prog_23_method_14_code (2 : Nat) (Option.none : Option Jvm.ClassFile.FieldType)]
set_option maxRecDepth 65536 in
theorem codes_eq : words1.filter isCode = codes1 := rfl
theorem w_codes : ∀ c ∈ words1.filter isCode, c.before args0 about1 = true := by
  rw [codes_eq]
  intro c hc
  simp only [codes1, List.mem_cons, List.not_mem_nil, or_false] at hc
  rcases hc with rfl | rfl | rfl | rfl | rfl | rfl | rfl | rfl | rfl | rfl | rfl | rfl | rfl | rfl
  · exact w_c0
  · exact w_c1
  · exact w_c2
  · exact w_c3
  · exact w_c4
  · exact w_c5
  · exact w_c6
  · exact w_c7
  · exact w_c8
  · exact w_c9
  · exact w_c10
  · exact w_c11
  · exact w_c12
  · exact w_c13
set_option maxRecDepth 65536 in
theorem w_t1 : (words1.take 24).all (fun c => isCode c || c.before args0 about1) = true := by decide +kernel
set_option maxRecDepth 65536 in
theorem w_t2 : ((words1.drop 24).take 24).all (fun c => isCode c || c.before args0 about1) = true := by decide +kernel
set_option maxRecDepth 65536 in
theorem w_t3 : (((words1.drop 24).drop 24).take 24).all (fun c => isCode c || c.before args0 about1) = true := by decide +kernel
set_option maxRecDepth 65536 in
theorem w_t4 : (((words1.drop 24).drop 24).drop 24).all (fun c => isCode c || c.before args0 about1) = true := by decide +kernel
theorem w_tables : (allAtoms (Jvm.Cond.code x code maxLocals ret :: tables_1)).before args0 about1 = true := by
  rw [allAtoms_all]
  show words1.all (fun c => c.before args0 about1) = true
  refine all_split ?_ w_codes
  rw [← List.take_append_drop 24 words1, List.all_append, w_t1, ← List.take_append_drop 24 (words1.drop 24), List.all_append, w_t2, ← List.take_append_drop 24 ((words1.drop 24).drop 24), List.all_append, w_t3, w_t4]
  rfl
set_option maxRecDepth 65536 in
theorem w_case : (Jvm.Cond.and given_1 narrow_1).before args0 about1 = true := by decide +kernel
theorem w_applies : (headSpec (Jvm.Cond.code x code maxLocals ret :: tables_1) room_1).applies x e0.platform about1 = true :=
  (Spec.applies_iff w_frames).mpr ⟨w_running, w_runnable, w_alone, w_named, w_hears, w_ripe, w_room, w_tables⟩
theorem atStart : AtStart classFile x code maxLocals ret World_1 tables_1 room_1 Calls_1 rest_1 Pre_1 launch0 p0 e0 about1 theMethod args0 below0 :=
  ⟨lists_1, trivial, launch0.admits_env _ _ _, launch0.least_env, fairChoices_fair.cas, fairChoices_fair.clock, w_frames, w_args, w_heap, w_applies, trivial, trivial, w_case⟩
end start1
theorem witness_1 : WitnessClaimed_1 := ⟨start1.p0, start1.e0, start1.about1, start1.theMethod, start1.args0, start1.below0, start1.atStart⟩
end Jvm.Pilot.@@N@@
