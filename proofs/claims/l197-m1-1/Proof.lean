import JvmDerived
import JvmDerived.Pilot.@@N@@Statement
import JvmDerived.Pilot.@@N@@Code
set_option linter.unusedVariables false
set_option linter.unusedSimpArgs false
namespace Jvm.OwnK
open Sem ClassFile Op Lib Jvm.Stand Jvm.Free Jvm.LawKit Jvm.RoadKit
/-- from cur the body's run returns; Q holds of what it returns, the heap then, the places written; F of the end -/
def EndG (p : Program) (e : Env) (below : List Frame) (F : Outcome → State → List Loc → Prop) (Q : Option Value → Heap → List Loc → Prop) (cur : State) : Prop :=
  ∃ s₂ o, Steps p.tables e below cur s₂ ∧ s₂.status = .running ∧ Ended s₂ below o ∧ ∃ v L, o = .returned v ∧ Q v s₂.heap L ∧ F o s₂ L
abbrev End (p : Program) (e : Env) (below : List Frame) (s : State) (Q : Option Value → Heap → List Loc → Prop) (cl sl : Nat) (cur : State) : Prop := EndG p e below (fun o t L => FrameEnd s o t L cl sl) Q cur
/-- a body's contract: entered with the arguments 'as' at the heap h (tables warmer than Z's) it returns, and Q holds -/
def Con (l : Launch) (Z : State) (y : MethodName) (bytes : ByteArray) (maxL : Nat) (ret : Option FieldType) (ws : List Cond) (rm : Room) (as : Array Value) (h : Heap) (Q : Option Value → Heap → List Loc → Prop) : Prop :=
  MetFree l y (head1 (Cond.code y bytes maxL ret :: ws) rm) (fun a U => a = as ∧ Z.Warmed39 U.vm ∧ U.heap = h) (fun _ _ _ _ _ => True) (fun _ U o U' => ∃ v L, o = .returned v ∧ Q v U'.heap L ∧ FrameEnd U o U' L rm.cells rm.slots)
theorem retI_eq {a b : Int32} (h : b = a) : (some (Value.int a) : Option Value) = some (.int b) := by rw [h]
theorem retJ_eq {a b : Int64} (h : b = a) : (some (Value.long a) : Option Value) = some (.long b) := by rw [h]
theorem retD_eq {a b : UInt64} (h : b = a) : (some (Value.double a) : Option Value) = some (.double b) := by rw [h]
section Steps
variable {p : Program} {l : Launch} {e : Env} {R : Room} {s : State} {m : MethodId} {args : Array Value} {below : List Frame} {meth : Method} {c : Code} {T : State} {locs : List Loc} {cells slots : Nat} {Fe : Outcome → State → List Loc → Prop} {Q : Option Value → Heap → List Loc → Prop} {cl sl : Nat} {pc q : Nat} {Ls : Array Slot} {rest : List Value}
theorem EndG.st {cur nxt : State} (k : EndG p e below Fe Q nxt) (st : ∀ t, Steps p.tables e below nxt t → Steps p.tables e below cur t) : EndG p e below Fe Q cur := by
  obtain ⟨s₂, o, h1, r⟩ := k; exact ⟨s₂, o, st _ h1, r⟩
theorem EndG.tr {cur nxt : State} (k : EndG p e below Fe Q nxt) (st : Steps p.tables e below cur nxt) : EndG p e below Fe Q cur := by
  obtain ⟨s₂, o, h1, r⟩ := k; exact ⟨s₂, o, st.trans h1, r⟩
theorem End.cast {g g' : JFrame} (k : EndG p e below Fe Q (T.setTop g')) (h : g = g') : EndG p e below Fe Q (T.setTop g) := h ▸ k
theorem Con.of {Z : State} {y : MethodName} {bytes : ByteArray} {maxL : Nat} {ret : Option FieldType} {ws : List Cond} {rm : Room} {as : Array Value} {h : Heap} (hpl : plainFor y = true)
    (body : ∀ (p : Program) (e : Env) (s : State) (m : MethodId) (below : List Frame) (meth : Method) (c : Code) (s₁ : State), Stand p l e rm s m as below meth c s₁ [] 0 0 → p.tables.exec = Jvm.exec → c.code = bytes → c.maxLocals = maxL → s.vm.findClass y.cls = some m.cls → meth.name = y.name → meth.sig.returnType = ret → meth.locks = false → Z.Warmed39 s.vm → s₁.heap = h → End p e below s Q rm.cells rm.slots (s₁.setTop (entryFrame m as maxL))) :
    Con l Z y bytes maxL ret ws rm as h Q := by
  refine MetFree.of_bodySF hpl hisR ?_
  intro p e s m args below meth c s₁ Bd hml hP hK
  obtain ⟨rfl, hZ, hh⟩ := hP
  obtain ⟨s₂, o, h1, h2, h3, v, L, h4, h5, h6⟩ := body p e s m below meth c s₁ (Stand.of_body Bd) Bd.exec Bd.bytes hml (findClass_of_methodNamed Bd.named) (name_of_methodNamed Bd.named Bd.method).1 Bd.returns Bd.notSynchronized hZ (by rw [← hh, Bd.state]; rfl)
  exact ⟨s₂, o, h1, h2, h3, v, L, h4, h5, h6⟩
theorem Con.mono {Z : State} {y : MethodName} {bytes : ByteArray} {maxL : Nat} {ret : Option FieldType} {ws : List Cond} {rm : Room} {as : Array Value} {h : Heap} {Q' : Option Value → Heap → List Loc → Prop} (k : Con l Z y bytes maxL ret ws rm as h Q) (hQ : ∀ v hh L, Q v hh L → Q' v hh L) : Con l Z y bytes maxL ret ws rm as h Q' := by
  intro p e ha hc hk s m args below hf happ hP hK
  obtain ⟨n, o, h1, h2, h3, v, L, h4, h5, h6⟩ := k p e ha hc hk s m args below hf happ hP hK
  exact ⟨n, o, h1, h2, h3, v, L, h4, hQ _ _ _ h5, h6⟩
theorem k_iloadN (X : Stand p l e R s m args below meth c T locs cells slots) (hx : p.tables.exec = Jvm.exec) {j : Fin 4} {v : Int32} (hq : pc + 1 = q) (hd : decode c.code pc = .ok (.iload_n j, 1)) (hl : Ls[j.val]? = some (.val (.int v))) (k : EndG p e below Fe Q (T.setTop (mkF m q Ls (.int v :: rest)))) : EndG p e below Fe Q (T.setTop (mkF m pc Ls (rest))) := by
  subst hq; exact k.st fun t w => XS.iloadN X.here hx rfl hd hl w
theorem k_iload (X : Stand p l e R s m args below meth c T locs cells slots) (hx : p.tables.exec = Jvm.exec) {j : Nat} {v : Int32} (hq : pc + 2 = q) (hd : decode c.code pc = .ok (.iload j, 2)) (hl : Ls[j]? = some (.val (.int v))) (k : EndG p e below Fe Q (T.setTop (mkF m q Ls (.int v :: rest)))) : EndG p e below Fe Q (T.setTop (mkF m pc Ls (rest))) := by
  subst hq; exact k.st fun t w => XS.iload X.here hx rfl hd hl w
theorem k_istoreN (X : Stand p l e R s m args below meth c T locs cells slots) (hx : p.tables.exec = Jvm.exec) {j : Fin 4} {v : Int32} {L' : Array Slot} (hq : pc + 1 = q) (hd : decode c.code pc = .ok (.istore_n j, 1)) (hl : storeLocals Ls j.val (.int v) = some L') (k : EndG p e below Fe Q (T.setTop (mkF m q L' (rest)))) : EndG p e below Fe Q (T.setTop (mkF m pc Ls (.int v :: rest))) := by
  subst hq; exact k.st fun t w => XS.istoreN X.here hx rfl hd rfl hl w
theorem k_istore (X : Stand p l e R s m args below meth c T locs cells slots) (hx : p.tables.exec = Jvm.exec) {j : Nat} {v : Int32} {L' : Array Slot} (hq : pc + 2 = q) (hd : decode c.code pc = .ok (.istore j, 2)) (hl : storeLocals Ls j (.int v) = some L') (k : EndG p e below Fe Q (T.setTop (mkF m q L' (rest)))) : EndG p e below Fe Q (T.setTop (mkF m pc Ls (.int v :: rest))) := by
  subst hq; exact k.st fun t w => XS.istore X.here hx rfl hd rfl hl w
theorem k_dloadN (X : Stand p l e R s m args below meth c T locs cells slots) (hx : p.tables.exec = Jvm.exec) {j : Fin 4} {v : UInt64} (hq : pc + 1 = q) (hd : decode c.code pc = .ok (.dload_n j, 1)) (hl : Ls[j.val]? = some (.val (.double v))) (k : EndG p e below Fe Q (T.setTop (mkF m q Ls (.double v :: rest)))) : EndG p e below Fe Q (T.setTop (mkF m pc Ls (rest))) := by
  subst hq; exact k.st fun t w => XS.dloadN X.here hx rfl hd hl w
theorem k_dload (X : Stand p l e R s m args below meth c T locs cells slots) (hx : p.tables.exec = Jvm.exec) {j : Nat} {v : UInt64} (hq : pc + 2 = q) (hd : decode c.code pc = .ok (.dload j, 2)) (hl : Ls[j]? = some (.val (.double v))) (k : EndG p e below Fe Q (T.setTop (mkF m q Ls (.double v :: rest)))) : EndG p e below Fe Q (T.setTop (mkF m pc Ls (rest))) := by
  subst hq; exact k.st fun t w => XS.dload X.here hx rfl hd hl w
theorem k_dstoreN (X : Stand p l e R s m args below meth c T locs cells slots) (hx : p.tables.exec = Jvm.exec) {j : Fin 4} {v : UInt64} {L' : Array Slot} (hq : pc + 1 = q) (hd : decode c.code pc = .ok (.dstore_n j, 1)) (hl : storeLocals Ls j.val (.double v) = some L') (k : EndG p e below Fe Q (T.setTop (mkF m q L' (rest)))) : EndG p e below Fe Q (T.setTop (mkF m pc Ls (.double v :: rest))) := by
  subst hq; exact k.st fun t w => XS.dstoreN X.here hx rfl hd rfl hl w
theorem k_dstore (X : Stand p l e R s m args below meth c T locs cells slots) (hx : p.tables.exec = Jvm.exec) {j : Nat} {v : UInt64} {L' : Array Slot} (hq : pc + 2 = q) (hd : decode c.code pc = .ok (.dstore j, 2)) (hl : storeLocals Ls j (.double v) = some L') (k : EndG p e below Fe Q (T.setTop (mkF m q L' (rest)))) : EndG p e below Fe Q (T.setTop (mkF m pc Ls (.double v :: rest))) := by
  subst hq; exact k.st fun t w => XS.dstore X.here hx rfl hd rfl hl w
theorem k_aloadN (X : Stand p l e R s m args below meth c T locs cells slots) (hx : p.tables.exec = Jvm.exec) {j : Fin 4} {v : Value} (hq : pc + 1 = q) (hd : decode c.code pc = .ok (.aload_n j, 1)) (hl : Ls[j.val]? = some (.val v)) (hv : v.isRef = true) (k : EndG p e below Fe Q (T.setTop (mkF m q Ls (v :: rest)))) : EndG p e below Fe Q (T.setTop (mkF m pc Ls (rest))) := by
  subst hq; exact k.st fun t w => XS.aloadN X.here hx rfl hd hl hv w
theorem k_aload (X : Stand p l e R s m args below meth c T locs cells slots) (hx : p.tables.exec = Jvm.exec) {j : Nat} {v : Value} (hq : pc + 2 = q) (hd : decode c.code pc = .ok (.aload j, 2)) (hl : Ls[j]? = some (.val v)) (hv : v.isRef = true) (k : EndG p e below Fe Q (T.setTop (mkF m q Ls (v :: rest)))) : EndG p e below Fe Q (T.setTop (mkF m pc Ls (rest))) := by
  subst hq; exact k.st fun t w => XS.aload X.here hx rfl hd hl hv w
theorem k_astoreN (X : Stand p l e R s m args below meth c T locs cells slots) (hx : p.tables.exec = Jvm.exec) {j : Fin 4} {v : Value} {L' : Array Slot} (hq : pc + 1 = q) (hd : decode c.code pc = .ok (.astore_n j, 1)) (hv : v.isRef = true) (hl : storeLocals Ls j.val v = some L') (k : EndG p e below Fe Q (T.setTop (mkF m q L' (rest)))) : EndG p e below Fe Q (T.setTop (mkF m pc Ls (v :: rest))) := by
  subst hq; exact k.st fun t w => XS.astoreN X.here hx rfl hd rfl hv hl w
theorem k_astore (X : Stand p l e R s m args below meth c T locs cells slots) (hx : p.tables.exec = Jvm.exec) {j : Nat} {v : Value} {L' : Array Slot} (hq : pc + 2 = q) (hd : decode c.code pc = .ok (.astore j, 2)) (hv : v.isRef = true) (hl : storeLocals Ls j v = some L') (k : EndG p e below Fe Q (T.setTop (mkF m q L' (rest)))) : EndG p e below Fe Q (T.setTop (mkF m pc Ls (v :: rest))) := by
  subst hq; exact k.st fun t w => XS.astore X.here hx rfl hd rfl hv hl w
theorem k_iconst (X : Stand p l e R s m args below meth c T locs cells slots) (hx : p.tables.exec = Jvm.exec) {i : Int} {v : Int32} (hv : Int32.ofInt i = v) (hq : pc + 1 = q) (hd : decode c.code pc = .ok (.iconst i, 1)) (k : EndG p e below Fe Q (T.setTop (mkF m q Ls (.int v :: rest)))) : EndG p e below Fe Q (T.setTop (mkF m pc Ls (rest))) := by
  subst hq hv; exact k.st fun t w => XS.iconst X.here hx rfl hd w
theorem k_bipush (X : Stand p l e R s m args below meth c T locs cells slots) (hx : p.tables.exec = Jvm.exec) {i : Int} {v : Int32} (hv : (Int8.ofInt i).toInt32 = v) (hq : pc + 2 = q) (hd : decode c.code pc = .ok (.bipush i, 2)) (k : EndG p e below Fe Q (T.setTop (mkF m q Ls (.int v :: rest)))) : EndG p e below Fe Q (T.setTop (mkF m pc Ls (rest))) := by
  subst hq hv; exact k.st fun t w => XS.bipush X.here hx rfl hd w
theorem k_iadd (X : Stand p l e R s m args below meth c T locs cells slots) (hx : p.tables.exec = Jvm.exec) {x y : Int32} (hq : pc + 1 = q) (hd : decode c.code pc = .ok (.iadd, 1)) (k : EndG p e below Fe Q (T.setTop (mkF m q Ls (.int (x + y) :: rest)))) : EndG p e below Fe Q (T.setTop (mkF m pc Ls (.int y :: .int x :: rest))) := by
  subst hq; exact k.st fun t w => XS.iadd X.here hx rfl hd rfl w
theorem k_imul (X : Stand p l e R s m args below meth c T locs cells slots) (hx : p.tables.exec = Jvm.exec) {x y : Int32} (hq : pc + 1 = q) (hd : decode c.code pc = .ok (.imul, 1)) (k : EndG p e below Fe Q (T.setTop (mkF m q Ls (.int (x * y) :: rest)))) : EndG p e below Fe Q (T.setTop (mkF m pc Ls (.int y :: .int x :: rest))) := by
  subst hq; exact k.st fun t w => XS.imul X.here hx rfl hd rfl w
theorem k_iand (X : Stand p l e R s m args below meth c T locs cells slots) (hx : p.tables.exec = Jvm.exec) {x y : Int32} (hq : pc + 1 = q) (hd : decode c.code pc = .ok (.iand, 1)) (k : EndG p e below Fe Q (T.setTop (mkF m q Ls (.int (x &&& y) :: rest)))) : EndG p e below Fe Q (T.setTop (mkF m pc Ls (.int y :: .int x :: rest))) := by
  subst hq; exact k.st fun t w => XS.iand X.here hx rfl hd rfl w
theorem k_irem (X : Stand p l e R s m args below meth c T locs cells slots) (hx : p.tables.exec = Jvm.exec) {x y : Int32} (hq : pc + 1 = q) (hd : decode c.code pc = .ok (.irem, 1)) (hy : y ≠ 0) (k : EndG p e below Fe Q (T.setTop (mkF m q Ls (.int (x % y) :: rest)))) : EndG p e below Fe Q (T.setTop (mkF m pc Ls (.int y :: .int x :: rest))) := by
  subst hq; exact k.st fun t w => iremM X hx rfl hd rfl hy w
theorem k_iushr (X : Stand p l e R s m args below meth c T locs cells slots) (hx : p.tables.exec = Jvm.exec) {x y : Int32} (hq : pc + 1 = q) (hd : decode c.code pc = .ok (.iushr, 1)) (k : EndG p e below Fe Q (T.setTop (mkF m q Ls (.int ((x.toUInt32 >>> (y &&& 31).toUInt32).toInt32) :: rest)))) : EndG p e below Fe Q (T.setTop (mkF m pc Ls (.int y :: .int x :: rest))) := by
  subst hq; exact k.st fun t w => XS.iushr X.here hx rfl hd rfl w
theorem k_i2d (X : Stand p l e R s m args below meth c T locs cells slots) (hx : p.tables.exec = Jvm.exec) {x : Int32} (hq : pc + 1 = q) (hd : decode c.code pc = .ok (.i2d, 1)) (k : EndG p e below Fe Q (T.setTop (mkF m q Ls (.double (FP.i2d x) :: rest)))) : EndG p e below Fe Q (T.setTop (mkF m pc Ls (.int x :: rest))) := by
  subst hq; exact k.st fun t w => XS.i2dS X.here hx rfl hd rfl rfl w
theorem k_dcmp (X : Stand p l e R s m args below meth c T locs cells slots) (hx : p.tables.exec = Jvm.exec) {o : CmpOp} {x y : UInt64} {v : Int32} (hq : pc + 1 = q) (hd : decode c.code pc = .ok (.dcmp o, 1)) (hv : cmpValue (FP.dcmp x y) o = v) (k : EndG p e below Fe Q (T.setTop (mkF m q Ls (.int v :: rest)))) : EndG p e below Fe Q (T.setTop (mkF m pc Ls (.double y :: .double x :: rest))) := by
  subst hq; exact k.st fun t w => XS.dcmpS X.here hx rfl hd rfl hv w
theorem k_dconst0 (X : Stand p l e R s m args below meth c T locs cells slots) (hx : p.tables.exec = Jvm.exec) {v : UInt64} (hq : pc + 1 = q) (hd : decode c.code pc = .ok (.dconst 0, 1)) (hv : FP.dconst0 = v) (k : EndG p e below Fe Q (T.setTop (mkF m q Ls (.double v :: rest)))) : EndG p e below Fe Q (T.setTop (mkF m pc Ls (rest))) := by
  subst hq; exact k.st fun t w => XS.dconst0 X.here hx rfl hd hv w
theorem k_dup (X : Stand p l e R s m args below meth c T locs cells slots) (hx : p.tables.exec = Jvm.exec) {x : Value} (hq : pc + 1 = q) (hd : decode c.code pc = .ok (.dup, 1)) (hc : x.category = 1) (k : EndG p e below Fe Q (T.setTop (mkF m q Ls (x :: x :: rest)))) : EndG p e below Fe Q (T.setTop (mkF m pc Ls (x :: rest))) := by
  subst hq; exact k.st fun t w => XS.dup X.here hx rfl hd rfl hc w
theorem k_iinc (X : Stand p l e R s m args below meth c T locs cells slots) (hx : p.tables.exec = Jvm.exec) {j : Nat} {i : Int} {x : Int32} {L' : Array Slot} (hq : pc + 3 = q) (hd : decode c.code pc = .ok (.iinc j i, 3)) (hl : Ls[j]? = some (.val (.int x))) (hl' : storeLocals Ls j (.int (x + Int32.ofInt i)) = some L') (k : EndG p e below Fe Q (T.setTop (mkF m q L' (rest)))) : EndG p e below Fe Q (T.setTop (mkF m pc Ls (rest))) := by
  subst hq; exact k.st fun t w => XS.iinc X.here hx rfl hd hl hl' w
theorem k_goto (X : Stand p l e R s m args below meth c T locs cells slots) (hx : p.tables.exec = Jvm.exec) {o : Int} (ho : 0 ≤ (pc : Int) + o) (hp : ((pc : Int) + o).toNat = q) (hd : decode c.code pc = .ok (.goto o, 3)) (k : EndG p e below Fe Q (T.setTop (mkF m q Ls (rest)))) : EndG p e below Fe Q (T.setTop (mkF m pc Ls (rest))) :=
  k.st fun t w => XS.goto X.here hx rfl (pc0 := pc) (pc' := q) rfl hd ho hp w
theorem k_icmp_eq (X : Stand p l e R s m args below meth c T locs cells slots) (hx : p.tables.exec = Jvm.exec) {x y : Int32} {o : Int} {q1 : Nat} (ho : 0 ≤ (pc : Int) + o) (hp : ((pc : Int) + o).toNat = q1) (hq : pc + 3 = q) (hd : decode c.code pc = .ok (.if_icmp .eq o, 3)) (kt : x = y → EndG p e below Fe Q (T.setTop (mkF m q1 Ls (rest)))) (kf : ¬ x = y → EndG p e below Fe Q (T.setTop (mkF m q Ls (rest)))) : EndG p e below Fe Q (T.setTop (mkF m pc Ls (.int y :: .int x :: rest))) := by
  by_cases h : x = y
  · exact (kt h).st fun t w => XS.icmpYes X.here hx rfl (pc0 := pc) (pc' := q1) rfl hd rfl (XT.ii_eq_t h) ho hp w
  · subst hq; exact (kf h).st fun t w => XS.icmpNo X.here hx rfl hd rfl (XT.ii_eq_f h) w
theorem k_icmp_ne (X : Stand p l e R s m args below meth c T locs cells slots) (hx : p.tables.exec = Jvm.exec) {x y : Int32} {o : Int} {q1 : Nat} (ho : 0 ≤ (pc : Int) + o) (hp : ((pc : Int) + o).toNat = q1) (hq : pc + 3 = q) (hd : decode c.code pc = .ok (.if_icmp .ne o, 3)) (kt : ¬ x = y → EndG p e below Fe Q (T.setTop (mkF m q1 Ls (rest)))) (kf : x = y → EndG p e below Fe Q (T.setTop (mkF m q Ls (rest)))) : EndG p e below Fe Q (T.setTop (mkF m pc Ls (.int y :: .int x :: rest))) := by
  by_cases h : x = y
  · subst hq; exact (kf h).st fun t w => XS.icmpNo X.here hx rfl hd rfl (XT.ii_ne_f h) w
  · exact (kt h).st fun t w => XS.icmpYes X.here hx rfl (pc0 := pc) (pc' := q1) rfl hd rfl (XT.ii_ne_t h) ho hp w
theorem k_if_ne (X : Stand p l e R s m args below meth c T locs cells slots) (hx : p.tables.exec = Jvm.exec) {x : Int32} {o : Int} {q1 : Nat} (ho : 0 ≤ (pc : Int) + o) (hp : ((pc : Int) + o).toNat = q1) (hq : pc + 3 = q) (hd : decode c.code pc = .ok (.ifCond .ne o, 3)) (kt : ¬ x = 0 → EndG p e below Fe Q (T.setTop (mkF m q1 Ls (rest)))) (kf : x = 0 → EndG p e below Fe Q (T.setTop (mkF m q Ls (rest)))) : EndG p e below Fe Q (T.setTop (mkF m pc Ls (.int x :: rest))) := by
  by_cases h : x = 0
  · subst hq; exact (kf h).st fun t w => XS.ifNo X.here hx rfl hd rfl (XT.i0_ne_f h) w
  · exact (kt h).st fun t w => XS.ifYes X.here hx rfl (pc0 := pc) (pc' := q1) rfl hd rfl (XT.i0_ne_t h) ho hp w
theorem k_icmp_ge (X : Stand p l e R s m args below meth c T locs cells slots) (hx : p.tables.exec = Jvm.exec) {x y : Int32} {o : Int} {q1 : Nat} (ho : 0 ≤ (pc : Int) + o) (hp : ((pc : Int) + o).toNat = q1) (hq : pc + 3 = q) (hd : decode c.code pc = .ok (.if_icmp .ge o, 3)) (kt : ¬ x < y → EndG p e below Fe Q (T.setTop (mkF m q1 Ls (rest)))) (kf : x < y → EndG p e below Fe Q (T.setTop (mkF m q Ls (rest)))) : EndG p e below Fe Q (T.setTop (mkF m pc Ls (.int y :: .int x :: rest))) := by
  by_cases h : x < y
  · subst hq; exact (kf h).st fun t w => XS.icmpNo X.here hx rfl hd rfl (XT.ii_ge_f h) w
  · exact (kt h).st fun t w => XS.icmpYes X.here hx rfl (pc0 := pc) (pc' := q1) rfl hd rfl (XT.ii_ge_t h) ho hp w
theorem k_icmp_le (X : Stand p l e R s m args below meth c T locs cells slots) (hx : p.tables.exec = Jvm.exec) {x y : Int32} {o : Int} {q1 : Nat} (ho : 0 ≤ (pc : Int) + o) (hp : ((pc : Int) + o).toNat = q1) (hq : pc + 3 = q) (hd : decode c.code pc = .ok (.if_icmp .le o, 3)) (kt : ¬ y < x → EndG p e below Fe Q (T.setTop (mkF m q1 Ls (rest)))) (kf : y < x → EndG p e below Fe Q (T.setTop (mkF m q Ls (rest)))) : EndG p e below Fe Q (T.setTop (mkF m pc Ls (.int y :: .int x :: rest))) := by
  by_cases h : y < x
  · subst hq; exact (kf h).st fun t w => XS.icmpNo X.here hx rfl hd rfl (XT.ii_le_f h) w
  · exact (kt h).st fun t w => XS.icmpYes X.here hx rfl (pc0 := pc) (pc' := q1) rfl hd rfl (XT.ii_le_t h) ho hp w
theorem k_if_le (X : Stand p l e R s m args below meth c T locs cells slots) (hx : p.tables.exec = Jvm.exec) {x : Int32} {o : Int} {q1 : Nat} (ho : 0 ≤ (pc : Int) + o) (hp : ((pc : Int) + o).toNat = q1) (hq : pc + 3 = q) (hd : decode c.code pc = .ok (.ifCond .le o, 3)) (kt : ¬ 0 < x → EndG p e below Fe Q (T.setTop (mkF m q1 Ls (rest)))) (kf : 0 < x → EndG p e below Fe Q (T.setTop (mkF m q Ls (rest)))) : EndG p e below Fe Q (T.setTop (mkF m pc Ls (.int x :: rest))) := by
  by_cases h : 0 < x
  · subst hq; exact (kf h).st fun t w => XS.ifNo X.here hx rfl hd rfl (XT.i0_le_f h) w
  · exact (kt h).st fun t w => XS.ifYes X.here hx rfl (pc0 := pc) (pc' := q1) rfl hd rfl (XT.i0_le_t h) ho hp w
theorem k_retN (X : Stand p l e R s m args below meth c T locs cells slots) (hx : p.tables.exec = Jvm.exec) {z : Int32} {t : FieldType} (hlk : meth.locks = false) (hcl : cells ≤ cl) (hsl : slots ≤ sl) (hret : meth.sig.returnType = some t) (ht : t = .boolean ∨ t = .byte ∨ t = .char ∨ t = .short) (hd : decode c.code pc = .ok (.ireturn, 1)) (hQ : Q (some (.int (nar t z))) T.heap locs) : End p e below s Q cl sl (T.setTop (mkF m pc Ls (.int z :: rest))) := by
  obtain ⟨fs, hr, hrun, hended, hW, hsame⟩ := X.leave (v := (some (.int (nar t z)))) (fun h => by rw [hret] at h; cases h) hlk
  refine ⟨_, _, ?_, hrun, hended, _, _, rfl, hQ, ⟨_, rfl⟩, hW, hsame.mono hcl hsl⟩
  exact retN X hx hret ht hd hr
theorem k_retI (X : Stand p l e R s m args below meth c T locs cells slots) (hx : p.tables.exec = Jvm.exec) {z : Int32} (hlk : meth.locks = false) (hcl : cells ≤ cl) (hsl : slots ≤ sl) (hret : meth.sig.returnType = some .int) (hd : decode c.code pc = .ok (.ireturn, 1)) (hQ : Q (some (.int z)) T.heap locs) : End p e below s Q cl sl (T.setTop (mkF m pc Ls (.int z :: rest))) := by
  obtain ⟨fs, hr, hrun, hended, hW, hsame⟩ := X.leave (v := (some (.int z))) (fun h => by rw [hret] at h; cases h) hlk
  refine ⟨_, _, ?_, hrun, hended, _, _, rfl, hQ, ⟨_, rfl⟩, hW, hsame.mono hcl hsl⟩
  exact retOut X hx hret rfl (Or.inl ⟨rfl, Or.inl rfl, _, rfl⟩) hd hr
theorem k_retD (X : Stand p l e R s m args below meth c T locs cells slots) (hx : p.tables.exec = Jvm.exec) {z : UInt64} (hlk : meth.locks = false) (hcl : cells ≤ cl) (hsl : slots ≤ sl) (hret : meth.sig.returnType = some .double) (hd : decode c.code pc = .ok (.dreturn, 1)) (hQ : Q (some (.double z)) T.heap locs) : End p e below s Q cl sl (T.setTop (mkF m pc Ls (.double z :: rest))) := by
  obtain ⟨fs, hr, hrun, hended, hW, hsame⟩ := X.leave (v := (some (.double z))) (fun h => by rw [hret] at h; cases h) hlk
  refine ⟨_, _, ?_, hrun, hended, _, _, rfl, hQ, ⟨_, rfl⟩, hW, hsame.mono hcl hsl⟩
  exact retOut X hx hret rfl (Or.inr (Or.inr (Or.inl ⟨rfl, rfl, _, rfl⟩))) hd hr
theorem k_retA (X : Stand p l e R s m args below meth c T locs cells slots) (hx : p.tables.exec = Jvm.exec) {z : Value} {t : FieldType} (hlk : meth.locks = false) (hcl : cells ≤ cl) (hsl : slots ≤ sl) (hret : meth.sig.returnType = some t) (ht : t.isReference = true) (hz : z.isRef = true) (hd : decode c.code pc = .ok (.areturn, 1)) (hQ : Q (some z) T.heap locs) : End p e below s Q cl sl (T.setTop (mkF m pc Ls (z :: rest))) := by
  obtain ⟨fs, hr, hrun, hended, hW, hsame⟩ := X.leave (v := (some z)) (fun h => by rw [hret] at h; cases h) hlk
  refine ⟨_, _, ?_, hrun, hended, _, _, rfl, hQ, ⟨_, rfl⟩, hW, hsame.mono hcl hsl⟩
  exact retOut X hx hret (by cases t <;> first | rfl | (simp [FieldType.isReference] at ht)) (Or.inr (Or.inr (Or.inr (Or.inr ⟨rfl, ht, hz⟩)))) hd hr
theorem k_retV (X : Stand p l e R s m args below meth c T locs cells slots) (hx : p.tables.exec = Jvm.exec)  (hlk : meth.locks = false) (hcl : cells ≤ cl) (hsl : slots ≤ sl) (hret : meth.sig.returnType = none) (hd : decode c.code pc = .ok (.return_, 1)) (hQ : Q none T.heap locs) : End p e below s Q cl sl (T.setTop (mkF m pc Ls ([]))) := by
  obtain ⟨fs, hr, hrun, hended, hW, hsame⟩ := X.leave (v := none) (fun _ => rfl) hlk
  refine ⟨_, _, ?_, hrun, hended, _, _, rfl, hQ, ⟨_, rfl⟩, hW, hsame.mono hcl hsl⟩
  exact X.returnOut hx hret hd hr
variable {Z : State} {a0 : Array Value} {h : Heap}
theorem k_ldcI (X : Stand p l e R s m args below meth c T locs cells slots) (hx : p.tables.exec = Jvm.exec) (hZ : Z.Warmed39 s.vm) {own : String} {index : Nat} {v : Int32} (hown : s.vm.findClass own = some m.cls) (w0 : (Cond.constant own index v).before a0 Z = true) (hq : pc + 2 = q) (hd : decode c.code pc = .ok (.ldc index, 2)) (k : EndG p e below Fe Q (T.setTop (mkF m q Ls (.int v :: rest)))) : EndG p e below Fe Q (T.setTop (mkF m pc Ls (rest))) := by
  subst hq; exact k.st fun t w => X.ldcInt hx hown (mvT hZ w0) (g := (mkF m pc Ls (rest))) rfl hd t w
theorem k_ldc2D (X : Stand p l e R s m args below meth c T locs cells slots) (hx : p.tables.exec = Jvm.exec) (hZ : Z.Warmed39 s.vm) {own : String} {index : Nat} {v : UInt64} (hown : s.vm.findClass own = some m.cls) (w0 : (Cond.constantDouble own index v).before a0 Z = true) (hq : pc + 3 = q) (hd : decode c.code pc = .ok (.ldc2_w index, 3)) (k : EndG p e below Fe Q (T.setTop (mkF m q Ls (.double v :: rest)))) : EndG p e below Fe Q (T.setTop (mkF m pc Ls (rest))) := by
  subst hq; exact k.st fun t w => X.ldc2DoubleC hx hown (mvT hZ w0) (g := (mkF m pc Ls (rest))) rfl hd t w
theorem k_getF (X : Stand p l e R s m args below meth c T locs cells slots) (hx : p.tables.exec = Jvm.exec) (hZ : Z.Warmed39 s.vm) {own R0 O n d host : String} {index : Nat} (hown : s.vm.findClass own = some m.cls) (w0 : (Cond.fieldLink own index R0 n d).before a0 Z = true ∨ (Cond.fieldLinkNest own index R0 n d host).before a0 Z = true) (via : Via Z R0 O n d) (eT : T.heap = h) {a : Addr} {v : Value} (hq : pc + 3 = q) (hd : decode c.code pc = .ok (.getfield index, 3)) (F : Fld Z h a O n d v) (k : ∀ T', Stand p l e R s m args below meth c T' locs cells slots → T'.heap = h → EndG p e below Fe Q (T'.setTop (mkF m q Ls (v :: rest)))) : EndG p e below Fe Q (T.setTop (mkF m pc Ls (.ref a :: rest))) := by
  subst hq; obtain ⟨T', X', e', st⟩ := getF X hx hZ hown w0 via eT F (g := (mkF m pc Ls (.ref a :: rest))) rfl rfl hd
  exact (k T' X' e').st st
theorem k_putF (X : Stand p l e R s m args below meth c T locs cells slots) (hx : p.tables.exec = Jvm.exec) (hZ : Z.Warmed39 s.vm) {own R0 O n d host C : String} {index kk : Nat} {ty : FieldType} (hown : s.vm.findClass own = some m.cls) (w0 : (Cond.fieldLink own index R0 n d).before a0 Z = true ∨ (Cond.fieldLinkNest own index R0 n d host).before a0 Z = true) (via : Via Z R0 O n d) (eT : T.heap = h) {a : Addr} {v old : Value} (L0 : (Cond.lays C O n d).before a0 Z = true ∨ ((Cond.laysFinal C O n d).before a0 Z = true ∧ own = O ∧ meth.name = "<init>")) (wi : (Cond.instantiable C kk).before a0 Z = true) (hty : parseFieldDescriptor d = some ty) (hn : narrow ty v = v) (hf : fits ty v = true) (hq : pc + 3 = q) (hd : decode c.code pc = .ok (.putfield index, 3)) (F : Fld Z h a O n d old) (E : Exa Z h a C) (k : ∀ T' h', Stand p l e R s m args below meth c T' (locs ++ [⟨a, Jvm.RoadKit.slotOf Z O n d⟩]) cells slots → T'.heap = h' → Wr h h' a (Jvm.RoadKit.slotOf Z O n d) v → EndG p e below Fe Q (T'.setTop (mkF m q Ls (rest)))) : EndG p e below Fe Q (T.setTop (mkF m pc Ls (v :: .ref a :: rest))) := by
  subst hq; obtain ⟨T', h', X', e', W', st⟩ := putF X hx hZ hown w0 via eT F E L0 wi hty hn hf (g := (mkF m pc Ls (v :: .ref a :: rest))) rfl rfl hd
  exact (k T' h' X' e' W').st st
theorem k_new (X : Stand p l e R s m args below meth c T locs cells slots) (hx : p.tables.exec = Jvm.exec) (hZ : Z.Warmed39 s.vm) {own C : String} {index n : Nat} (hown : s.vm.findClass own = some m.cls) (w0 : (Cond.classLink own index C).before a0 Z = true) (wi : (Cond.instantiable C n).before a0 Z = true) (wz : (Cond.initialized C).before a0 Z = true) (eT : T.heap = h) (hq : pc + 3 = q) (hd : decode c.code pc = .ok (.new index, 3)) (hc : cells + 1 ≤ R.cells) (hl : slots + n ≤ R.slots) (k : ∀ T' h' a, Stand p l e R s m args below meth c T' locs (cells + 1) (slots + n) → T'.heap = h' → a = h.size → Ext h h' → Exa Z h' a C → (∀ {O nm d : String} {ty : FieldType}, Laid Z a0 C O nm d → parseFieldDescriptor d = some ty → Fld Z h' a O nm d (defaultValue ty)) → EndG p e below Fe Q (T'.setTop (mkF m q Ls (.ref a :: rest)))) : EndG p e below Fe Q (T.setTop (mkF m pc Ls (rest))) := by
  subst hq; obtain ⟨T', h', X', e', E', A', D', -, st⟩ := newO X hx hZ hown w0 wi wz eT (g := (mkF m pc Ls (rest))) rfl hd hc hl
  exact (k T' h' _ X' e' rfl E' A' D').st st
theorem k_newP (X : Stand p l e R s m args below meth c T locs cells slots) (hx : p.tables.exec = Jvm.exec) (hZ : Z.Warmed39 s.vm) {aty : ArrayType} (w0 : (Cond.arrayClass (newarray.typeOf aty)).before a0 Z = true) (eT : T.heap = h) {n : Int32} (hq : pc + 2 = q) (hd : decode c.code pc = .ok (.newarray aty, 2)) (hn : ¬ n < 0) {cap : Nat} (hcap : n.toNatClampNeg ≤ cap) (hb : cap * 8 ≤ 536870912) (hc : cells + 1 ≤ R.cells) (hl : slots + cap ≤ R.slots) (k : ∀ T' h' a cA, Stand p l e R s m args below meth c T' locs (cells + 1) (slots + cap) → T'.heap = h' → a = h.size → Ext h h' → Arr Z h' a (newA cA (newarray.typeOf aty) n) (newarray.typeOf aty) → EndG p e below Fe Q (T'.setTop (mkF m q Ls (.ref a :: rest)))) : EndG p e below Fe Q (T.setTop (mkF m pc Ls (.int n :: rest))) := by
  subst hq; obtain ⟨T', h', cA, X', e', E', A', st⟩ := newP X hx hZ w0 eT (g := (mkF m pc Ls (.int n :: rest))) rfl hd rfl hn hcap hb hc hl
  exact (k T' h' _ cA X' e' rfl E' A').st st
theorem k_initO (X : Stand p l e R s m args below meth c T locs cells slots) (hx : p.tables.exec = Jvm.exec) (hZ : Z.Warmed39 s.vm) {own : String} {index : Nat} (hown : s.vm.findClass own = some m.cls) (w1 : (Cond.methodLink own index Lib.objectInit).before a0 Z = true) (w2 : (Cond.instanceMethod Lib.objectInit).before a0 Z = true) (w3 : (Cond.code Lib.objectInit ⟨#[0xb1]⟩ 1 none).before a0 Z = true) (eT : T.heap = h) {a : Addr} (hq : pc + 3 = q) (hd : decode c.code pc = .ok (.invokespecial index, 3)) (hls : Ls.size = c.maxLocals) (hf : 1 ≤ R.frames) (W : Nat) (hW : 2 * 0 + (rest.map fun v => v.category).sum ≤ W) (hl : W + 12 ≤ R.locals) (k : ∀ T', Stand p l e R s m args below meth c T' locs cells slots → T'.heap = h → EndG p e below Fe Q (T'.setTop (mkF m q Ls (rest)))) : EndG p e below Fe Q (T.setTop (mkF m pc Ls (.ref a :: rest))) := by
  subst hq; obtain ⟨T', X', e', st⟩ := initO X hx hZ hown w1 w2 w3 eT (g := (mkF m pc Ls (.ref a :: rest))) rfl hls rfl hd hf (W := W) hW hl
  exact (k T' X' e').st st
end Steps
/-- the array at a has n places; the place t holds v t -/
def Ary (Z : State) (h : Heap) (a : Addr) (ty : FieldType) (n : Nat) (v : Nat → Value) : Prop := ∃ c : Cell, Arr Z h a c ty ∧ c.slots.size = n ∧ n < 2 ^ 31 ∧ ∀ t, t < n → c.slots[t]? = some (v t)
/-- g, but x at i -/
def upd {α : Type} (g : Nat → α) (i : Nat) (x : α) : Nat → α := fun t => if t = i then x else g t
theorem upd_same {α : Type} (g : Nat → α) (i : Nat) (x : α) : upd g i x i = x := if_pos rfl
theorem upd_other {α : Type} (g : Nat → α) {i t : Nat} (x : α) (q : t ≠ i) : upd g i x t = g t := if_neg q
section Arys
variable {Z : State} {h h' : Heap} {a b : Addr} {ty : FieldType} {n : Nat} {v w : Nat → Value} {sl : Nat} {x : Value} {ws : List Addr}
theorem Ary.lt (F : Ary Z h a ty n v) : a < h.size := by obtain ⟨c, A, -⟩ := F; exact A.lt
theorem Ary.ext (F : Ary Z h a ty n v) (E : Ext h h') : Ary Z h' a ty n v := by obtain ⟨c, A, r⟩ := F; exact ⟨c, A.ext E, r⟩
theorem Ary.other (F : Ary Z h b ty n v) (W : Wr h h' a sl x) (q : b ≠ a) : Ary Z h' b ty n v := by obtain ⟨c, A, r⟩ := F; exact ⟨c, A.other W q, r⟩
theorem Ary.keep (F : Ary Z h a ty n v) (K : Keep h h' ws) (q : a ∉ ws) : Ary Z h' a ty n v := by obtain ⟨c, A, r⟩ := F; exact ⟨c, ⟨K.2.1 a c A.1 q, A.2⟩, r⟩
theorem Ary.same (F : Ary Z h a ty n v) (W : Wr h h' a sl x) : Ary Z h' a ty n (fun t => if t = sl then x else v t) := by
  obtain ⟨c, A, S, B, H⟩ := F
  refine ⟨_, A.same W, by rw [sz_set, S], B, fun t ht => ?_⟩
  by_cases q : t = sl
  · subst q; simp [Cell.setSlot, S, ht]
  · simp only [if_neg q, Cell.setSlot]; rw [Array.getElem?_setIfInBounds_ne (Ne.symm q)]; exact H t ht
theorem Ary.congr (F : Ary Z h a ty n v) (q : ∀ t, t < n → v t = w t) : Ary Z h a ty n w := by obtain ⟨c, A, S, B, H⟩ := F; exact ⟨c, A, S, B, fun t ht => by rw [H t ht, q t ht]⟩
theorem Ary.new {k : ClassId} {z : Int32} (A : Arr Z h a (newA k ty z) ty) (q : ¬ z < 0) (hn : z.toNatClampNeg = n) : Ary Z h a ty n (fun _ => defaultValue ty) := by
  subst hn; exact ⟨_, A, sz_new _ _ _, (back32 q).2, fun t ht => by simp [newA, ht]⟩
theorem Keep.of_ext (E : Ext h h') : Keep h h' [] := (Keep.refl h []).ext E
def Cls (h : Heap) (a : Addr) (k : ClassId) : Prop := ∃ c : Cell, h[a]? = some c ∧ c.cls = k
theorem Cls.lt {k : ClassId} (F : Cls h a k) : a < h.size := by obtain ⟨c, h1, -⟩ := F; exact (Array.getElem?_eq_some_iff.mp h1).1
theorem Cls.keep {k : ClassId} (F : Cls h a k) (K : Keep h h' ws) : Cls h' a k := by obtain ⟨c, h1, h2⟩ := F; obtain ⟨c', q1, q2, -⟩ := K.2.2 _ _ h1; exact ⟨c', q1, q2.trans h2⟩
theorem Sto.ofA {k : ClassId} {C : String} {y : Addr} (A : Ary Z h a ty n v) (q : Cls h a k) (O : Ovr Z k C) (I : Ins Z h y C true) : Sto Z h a (.ref y) := by
  obtain ⟨c, A, r⟩ := A; obtain ⟨c', q1, q2⟩ := q; cases A.1.symm.trans q1; exact Sto.of A (q2 ▸ O) I
end Arys
theorem acmp_eq_t {a b : Addr} (h : a = b) : XT.acmp .eq (.ref a) (.ref b) = true := by subst h; simp [XT.acmp]
theorem acmp_eq_f {a b : Addr} (h : ¬ a = b) : XT.acmp .eq (.ref a) (.ref b) = false := by simp [XT.acmp, h]
theorem acmp_ne_t {a b : Addr} (h : ¬ a = b) : XT.acmp .ne (.ref a) (.ref b) = true := by simp [XT.acmp, h]
theorem acmp_ne_f {a b : Addr} (h : a = b) : XT.acmp .ne (.ref a) (.ref b) = false := by subst h; simp [XT.acmp]
/-- j names the place i -/
def Ix (j : Int32) (i : Nat) : Prop := ¬ j < 0 ∧ j.toNatClampNeg = i
theorem Ix.in {j : Int32} {i n : Nat} {c : Cell} (q : Ix j i) (S : c.slots.size = n) (hi : i < n) : ¬ (j < 0 ∨ c.slots.size ≤ j.toNatClampNeg) := fun o => o.elim q.1 fun o => by rw [S, q.2] at o; omega
theorem Ix.of {j : Int32} {i : Nat} (q : j.toInt = i) : Ix j i := by
  have h0 : ¬ j < 0 := by rw [Int32.lt_iff_toInt_lt, show (0 : Int32).toInt = 0 from by decide]; omega
  refine ⟨h0, ?_⟩
  have := nat_of h0; omega
theorem Ix.int {j : Int32} {i : Nat} (q : Ix j i) : j.toInt = i := by have := nat_of q.1; rw [q.2] at this; exact this
section Steps
variable {p : Program} {l : Launch} {e : Env} {R : Room} {s : State} {m : MethodId} {args : Array Value} {below : List Frame} {meth : Method} {c : Code} {T : State} {locs : List Loc} {cells slots : Nat} {Fe : Outcome → State → List Loc → Prop} {Q : Option Value → Heap → List Loc → Prop} {cl sl : Nat} {pc q : Nat} {Ls : Array Slot} {rest : List Value}
variable {Z : State} {a0 : Array Value} {h : Heap}
theorem k_arI (X : Stand p l e R s m args below meth c T locs cells slots) (hx : p.tables.exec = Jvm.exec) (hZ : Z.Warmed39 s.vm) (eT : T.heap = h) {a : Addr} {n : Nat} {v : Nat → Value} {j : Int32} {x : Value} (i : Nat) (hq : pc + 1 = q) (hd : decode c.code pc = .ok (.iaload, 1)) (A : Ary Z h a .int n v) (hj : Ix j i) (hi : i < n) (hv : v i = x) (k : EndG p e below Fe Q (T.setTop (mkF m q Ls (x :: rest)))) : EndG p e below Fe Q (T.setTop (mkF m pc Ls (.int j :: .ref a :: rest))) := by
  obtain ⟨ce, A, S, B, H⟩ := A
  subst hq hv; exact k.st fun t w => X.iaload hx (j := j) (v := v i) (by rw [eT]; exact A.1) (State.isArrayOf_alike hZ.alike A.2.1) A.2.2 (hj.in S hi) (by rw [hj.2]; exact H i hi) (g := (mkF m pc Ls (.int j :: .ref a :: rest))) rfl rfl hd t w
theorem k_arD (X : Stand p l e R s m args below meth c T locs cells slots) (hx : p.tables.exec = Jvm.exec) (hZ : Z.Warmed39 s.vm) (eT : T.heap = h) {a : Addr} {n : Nat} {v : Nat → Value} {j : Int32} {x : Value} (i : Nat) (hq : pc + 1 = q) (hd : decode c.code pc = .ok (.daload, 1)) (A : Ary Z h a .double n v) (hj : Ix j i) (hi : i < n) (hv : v i = x) (k : EndG p e below Fe Q (T.setTop (mkF m q Ls (x :: rest)))) : EndG p e below Fe Q (T.setTop (mkF m pc Ls (.int j :: .ref a :: rest))) := by
  obtain ⟨ce, A, S, B, H⟩ := A
  subst hq hv; exact k.st fun t w => X.daload hx (j := j) (v := v i) (by rw [eT]; exact A.1) (State.isArrayOf_alike hZ.alike A.2.1) A.2.2 (hj.in S hi) (by rw [hj.2]; exact H i hi) (g := (mkF m pc Ls (.int j :: .ref a :: rest))) rfl rfl hd t w
theorem k_asI (X : Stand p l e R s m args below meth c T locs cells slots) (hx : p.tables.exec = Jvm.exec) (hZ : Z.Warmed39 s.vm) (eT : T.heap = h) {a : Addr} {n : Nat} {v : Nat → Value} {j : Int32} {x : Int32} (i : Nat) (hq : pc + 1 = q) (hd : decode c.code pc = .ok (.iastore, 1)) (A : Ary Z h a .int n v) (hj : Ix j i) (hi : i < n) (k : ∀ T' h', Stand p l e R s m args below meth c T' (locs ++ [⟨a, i⟩]) cells slots → T'.heap = h' → Wr h h' a i (.int x) → Ary Z h' a .int n (fun t => if t = i then (.int x) else v t) → EndG p e below Fe Q (T'.setTop (mkF m q Ls (rest)))) : EndG p e below Fe Q (T.setTop (mkF m pc Ls (.int x :: .int j :: .ref a :: rest))) := by
  have A0 := A
  obtain ⟨ce, A, S, B, H⟩ := A
  subst hq; obtain ⟨T', h', X', e', W', st⟩ := stI X hx hZ eT A (hj.in S hi) (g := (mkF m pc Ls (.int x :: .int j :: .ref a :: rest))) rfl rfl hd
  rw [hj.2] at X' W'
  exact (k T' h' X' e' W' (A0.same W')).st st
theorem k_asD (X : Stand p l e R s m args below meth c T locs cells slots) (hx : p.tables.exec = Jvm.exec) (hZ : Z.Warmed39 s.vm) (eT : T.heap = h) {a : Addr} {n : Nat} {v : Nat → Value} {j : Int32} {x : UInt64} (i : Nat) (hq : pc + 1 = q) (hd : decode c.code pc = .ok (.dastore, 1)) (A : Ary Z h a .double n v) (hj : Ix j i) (hi : i < n) (k : ∀ T' h', Stand p l e R s m args below meth c T' (locs ++ [⟨a, i⟩]) cells slots → T'.heap = h' → Wr h h' a i (.double x) → Ary Z h' a .double n (fun t => if t = i then (.double x) else v t) → EndG p e below Fe Q (T'.setTop (mkF m q Ls (rest)))) : EndG p e below Fe Q (T.setTop (mkF m pc Ls (.double x :: .int j :: .ref a :: rest))) := by
  have A0 := A
  obtain ⟨ce, A, S, B, H⟩ := A
  subst hq; obtain ⟨T', h', X', e', W', st⟩ := stD X hx hZ eT A (hj.in S hi) (g := (mkF m pc Ls (.double x :: .int j :: .ref a :: rest))) rfl rfl hd
  rw [hj.2] at X' W'
  exact (k T' h' X' e' W' (A0.same W')).st st
theorem k_al (X : Stand p l e R s m args below meth c T locs cells slots) (hx : p.tables.exec = Jvm.exec) (hZ : Z.Warmed39 s.vm) (eT : T.heap = h) {a : Addr} {ty : FieldType} {n : Nat} {v : Nat → Value} {z : Int32} (hq : pc + 1 = q) (hd : decode c.code pc = .ok (.arraylength, 1)) (A : Ary Z h a ty n v) (hz : n.toInt32 = z) (k : EndG p e below Fe Q (T.setTop (mkF m q Ls (.int z :: rest)))) : EndG p e below Fe Q (T.setTop (mkF m pc Ls (.ref a :: rest))) := by
  obtain ⟨ce, A, S, B, H⟩ := A
  subst hq hz; exact k.st fun t w => X.arraylength hx (by rw [eT]; exact A.1) (State.isArrayOf_alike hZ.alike A.2.1) (g := (mkF m pc Ls (.ref a :: rest))) rfl rfl hd t (by rw [S]; exact w)
theorem k_callS (X : Stand p l e R s m args below meth c T locs cells slots) (hx : p.tables.exec = Jvm.exec) (hZ : Z.Warmed39 s.vm) {own : String} {index : Nat} {y : MethodName} {bytes : ByteArray} {maxL : Nat} {ret : Option FieldType} {rm : Room} {as : List Value} {Qc : Option Value → Heap → List Loc → Prop} (hown : s.vm.findClass own = some m.cls) (w1 : (Cond.methodLink own index y).before a0 Z = true) (w2 : (Cond.static y).before a0 Z = true) (w3 : (Cond.initialized y.cls).before a0 Z = true) (w4 : (Cond.code y bytes maxL ret).before a0 Z = true) (hy : y.cls ≠ "java/lang/invoke/MethodHandle" ∧ y.cls ≠ "java/lang/invoke/VarHandle") (W : Nat) (eT : T.heap = h) (hM : Con l Z y bytes maxL ret [] rm (as).toArray h Qc) (hf : rm.frames + 1 ≤ R.frames) (hl : W + (maxL + 11) + rm.locals ≤ R.locals) (hcl : cells + rm.cells ≤ R.cells) (hsl : slots + rm.slots ≤ R.slots) (hls : Ls.size = c.maxLocals) {ps : List FieldType} {rt : Option FieldType} (hpd : parseMethodDescriptor y.desc = some ⟨ps, rt⟩) (hlen : as.length = ps.length) (hW : 2 * 0 + (rest.map fun v => v.category).sum ≤ W) (hq : pc + 3 = q) (hd : decode c.code pc = .ok (.invokestatic index, 3)) (k : ∀ v T' L, Stand p l e R s m args below meth c T' (locs ++ L) (cells + rm.cells) (slots + rm.slots) → Qc v T'.heap L → EndG p e below Fe Q (T'.setTop (mkF m q Ls (v.toList ++ rest)))) : EndG p e below Fe Q (T.setTop (mkF m pc Ls (as.reverse ++ rest))) := by
  subst hq
  obtain ⟨v, _, ⟨T', L', k', n'⟩, -, X', ⟨Lc, hQ, l', y', z'⟩, st⟩ := Jvm.LawKit.callS X hx (y := y) hown (mvT hZ w1) (mvT hZ w2) (mvT hZ w3) (mvT hZ w4) hy (backOf (W := W) hM hZ w4 w3 hf hl) (g := (mkF m pc Ls (as.reverse ++ rest))) rfl hls (argsL := as) (rest := rest) (lenOf hpd hlen) rfl hW hd (fun _ _ => ⟨rfl, eT, hcl, hsl⟩)
  dsimp only [Pt.U, Pt.locs, Pt.cells, Pt.slots] at X' l' y' z' st hQ
  subst l' y' z'
  exact (k v T' Lc X' hQ).st st
theorem k_callI (X : Stand p l e R s m args below meth c T locs cells slots) (hx : p.tables.exec = Jvm.exec) (hZ : Z.Warmed39 s.vm) {own : String} {index : Nat} {y : MethodName} {bytes : ByteArray} {maxL : Nat} {rm : Room} {as : List Value} {Qc : Option Value → Heap → List Loc → Prop} {a : Addr} (hown : s.vm.findClass own = some m.cls) (hy1 : y.name = "<init>") (w1 : (Cond.methodLink own index y).before a0 Z = true) (w2 : (Cond.instanceMethod y).before a0 Z = true) (w3 : (Cond.initialized y.cls).before a0 Z = true) (w4 : (Cond.code y bytes maxL none).before a0 Z = true) (hy : y.cls ≠ "java/lang/invoke/MethodHandle" ∧ y.cls ≠ "java/lang/invoke/VarHandle") (W : Nat) (eT : T.heap = h) (hM : Con l Z y bytes maxL none [] rm (.ref a :: as).toArray h Qc) (hf : rm.frames + 1 ≤ R.frames) (hl : W + (maxL + 11) + rm.locals ≤ R.locals) (hcl : cells + rm.cells ≤ R.cells) (hsl : slots + rm.slots ≤ R.slots) (hls : Ls.size = c.maxLocals) {ps : List FieldType} {rt : Option FieldType} (hpd : parseMethodDescriptor y.desc = some ⟨ps, rt⟩) (hlen : as.length = ps.length) (hW : 2 * 0 + (rest.map fun v => v.category).sum ≤ W) (hq : pc + 3 = q) (hd : decode c.code pc = .ok (.invokespecial index, 3)) (k : ∀ v T' L, Stand p l e R s m args below meth c T' (locs ++ L) (cells + rm.cells) (slots + rm.slots) → Qc v T'.heap L → EndG p e below Fe Q (T'.setTop (mkF m q Ls (v.toList ++ rest)))) : EndG p e below Fe Q (T.setTop (mkF m pc Ls (as.reverse ++ .ref a :: rest))) := by
  subst hq
  obtain ⟨v, _, ⟨T', L', k', n'⟩, -, X', ⟨Lc, hQ, l', y', z'⟩, st⟩ := X.specialBack hx (y := y) hy1 hown (mvT hZ w1) (mvT hZ w2) (mvT hZ w4) hy (backOf (W := W) hM hZ w4 w3 hf hl) (g := (mkF m pc Ls (as.reverse ++ .ref a :: rest))) rfl hls (Steps.refl _) (a := a) (argsL := as) (rest := rest) (lenOf hpd hlen) rfl hW hd (fun _ _ => ⟨rfl, eT, hcl, hsl⟩)
  dsimp only [Pt.U, Pt.locs, Pt.cells, Pt.slots] at X' l' y' z' st hQ
  subst l' y' z'
  exact (k v T' Lc X' hQ).tr st
theorem k_callV (X : Stand p l e R s m args below meth c T locs cells slots) (hx : p.tables.exec = Jvm.exec) (hZ : Z.Warmed39 s.vm) {own : String} {index : Nat} {y : MethodName} {bytes : ByteArray} {maxL : Nat} {ret : Option FieldType} {rm : Room} {as : List Value} {Qc : Option Value → Heap → List Loc → Prop} {a : Addr} {C : String} {z : MethodName} (hown : s.vm.findClass own = some m.cls) (w1 : (Cond.methodLink own index y).before a0 Z = true) (w2 : (Cond.declares y).before a0 Z = true) (hnf : NotFace s y) (w3 : (Cond.selects C y z).before a0 Z = true) (w4 : (Cond.instanceMethod z).before a0 Z = true) (w5 : (Cond.code z bytes maxL ret).before a0 Z = true) (w6 : (Cond.initialized z.cls).before a0 Z = true) (hy : y.cls ≠ "java/lang/invoke/MethodHandle" ∧ y.cls ≠ "java/lang/invoke/VarHandle") (Ex : Exa Z h a C) (W : Nat) (eT : T.heap = h) (hM : Con l Z z bytes maxL ret [] rm (.ref a :: as).toArray h Qc) (hf : rm.frames + 1 ≤ R.frames) (hl : W + (maxL + 11) + rm.locals ≤ R.locals) (hcl : cells + rm.cells ≤ R.cells) (hsl : slots + rm.slots ≤ R.slots) (hls : Ls.size = c.maxLocals) {ps : List FieldType} {rt : Option FieldType} (hpd : parseMethodDescriptor y.desc = some ⟨ps, rt⟩) (hlen : as.length = ps.length) (hW : 2 * 0 + (rest.map fun v => v.category).sum ≤ W) (hq : pc + 3 = q) (hd : decode c.code pc = .ok (.invokevirtual index, 3)) (k : ∀ v T' L, Stand p l e R s m args below meth c T' (locs ++ L) (cells + rm.cells) (slots + rm.slots) → Qc v T'.heap L → EndG p e below Fe Q (T'.setTop (mkF m q Ls (v.toList ++ rest)))) : EndG p e below Fe Q (T.setTop (mkF m pc Ls (as.reverse ++ .ref a :: rest))) := by
  subst hq
  obtain ⟨cB, kB, q1, q2, q3⟩ := isOf hZ eT Ex
  obtain ⟨v, _, ⟨T', L', k', n'⟩, -, X', ⟨Lc, hQ, l', y', z'⟩, st⟩ := X.virtualBack hx (y := y) (z := z) hown (mvT hZ w1) (mvT hZ w2) hnf (mvT hZ w3) (mvT hZ w4) hy (backOf (W := W) hM hZ w5 w6 hf hl) q1 q3 (g := (mkF m pc Ls (as.reverse ++ .ref a :: rest))) rfl hls (Steps.refl _) (argsL := as) (rest := rest) (lenOf hpd hlen) rfl hW hd (fun _ _ => ⟨rfl, eT, hcl, hsl⟩)
  dsimp only [Pt.U, Pt.locs, Pt.cells, Pt.slots] at X' l' y' z' st hQ
  subst l' y' z'
  exact (k v T' Lc X' hQ).tr st
end Steps
end Jvm.OwnK
namespace Jvm.Pilot.@@N@@
open Jvm Jvm.ClassFile Sem Op Lib Jvm.Free Jvm.Stand Jvm.LawKit Jvm.RoadKit Jvm.OwnK Bundle Jvm.Pilot.@@N@@.Jvm.D
theorem pn_0 : plainName "com/example/footwise/footwise/bench/BenchUsesImpassablePinLaw" = true := by first | (simp [plainName, overriddenIn]; done) | decide +kernel
theorem pn_1 : plainName "java/lang/Record" = true := by first | (simp [plainName, overriddenIn]; done) | decide +kernel
theorem pn_2 : plainName "com/example/footwise/footwise/search/Route" = true := by first | (simp [plainName, overriddenIn]; done) | decide +kernel
theorem pn_3 : plainName "com/example/footwise/footwise/bench/Bench" = true := by first | (simp [plainName, overriddenIn]; done) | decide +kernel
theorem pd_0 : parseMethodDescriptor "()V" = some ⟨[], none⟩ := by decide +kernel
theorem pd_1 : parseMethodDescriptor "()[I" = some ⟨[], some (.array .int)⟩ := by decide +kernel
theorem pd_2 : parseMethodDescriptor "(IDD)D" = some ⟨[.int, .double, .double], some .double⟩ := by decide +kernel
theorem pd_3 : parseMethodDescriptor "(IIIIII)[I" = some ⟨[.int, .int, .int, .int, .int, .int], some (.array .int)⟩ := by decide +kernel
theorem pd_4 : parseMethodDescriptor "([I[ID)V" = some ⟨[(.array .int), (.array .int), .double], none⟩ := by decide +kernel
theorem pd_5 : parseMethodDescriptor "(II)I" = some ⟨[.int, .int], some .int⟩ := by decide +kernel
theorem pd_6 : parseMethodDescriptor "(Lcom/example/footwise/footwise/search/Route;[D)Z" = some ⟨[(.object "com/example/footwise/footwise/search/Route"), (.array .double)], some .boolean⟩ := by decide +kernel
theorem os7_21_0 {z0 : Value} {z1 : Value} {z2 : Value} {z3 : Value} {z4 : Value} {u : Slot} {v : Int32} (h : One u) : storeLocals #[.val z0, .val z1, .val z2, .val z3, .val z4, u] 5 (.int v) = some #[.val z0, .val z1, .val z2, .val z3, .val z4, .val (.int v)] := by
  rcases h with rfl | ⟨w, rfl, hw⟩
  · rfl
  · cases w <;> first | rfl | (simp [Value.category] at hw)
theorem own_z0 : (0 : Int32).toInt = 0 := by decide
theorem own_nat {k : Nat} (h : k < 2 ^ 31) : Ix k.toInt32 k := Ix.of (len_toInt h)
theorem own_is {j : Int32} {i : Nat} (h : Ix j i) : j = i.toInt32 := Int32.toInt_inj.mp (by
  have e := h.int
  have b := (rng32 j).2
  rw [len_toInt (by omega), e])
theorem own_up {x : Int32} {k : Nat} (q : Ix x k) (hk : k < 2147483000) : Ix (x + 1) (k + 1) := by
  apply Ix.of
  have e := c_iadd x 1
  have b := rng32 (x + 1)
  have i := q.int
  have e1 : (1 : Int32).toInt = 1 := by decide
  rw [e1] at e
  omega
theorem own_lt {j m : Int32} {k n : Nat} (q : Ix j k) (r : Ix m n) : j < m ↔ k < n := by
  have := q.int
  have := r.int
  rw [Int32.lt_iff_toInt_lt]; omega
theorem own_eqi {j m : Int32} {k n : Nat} (q : Ix j k) (r : Ix m n) : j = m ↔ k = n := by
  have := q.int
  have := r.int
  rw [← Int32.toInt_inj]; omega
theorem d1_0 : decode method_4_code 0 = .ok (.iload_n 0, 1) := by decide +kernel
theorem d1_1 : decode method_4_code 1 = .ok (.ifCond .ne 5, 3) := by decide +kernel
theorem d1_4 : decode method_4_code 4 = .ok (.dconst 0, 1) := by decide +kernel
theorem d1_5 : decode method_4_code 5 = .ok (.dreturn, 1) := by decide +kernel
theorem d1_6 : decode method_4_code 6 = .ok (.iload_n 0, 1) := by decide +kernel
theorem d1_7 : decode method_4_code 7 = .ok (.iconst 1, 1) := by decide +kernel
theorem d1_8 : decode method_4_code 8 = .ok (.if_icmp .ne 5, 3) := by decide +kernel
theorem d1_11 : decode method_4_code 11 = .ok (.dload_n 3, 1) := by decide +kernel
theorem d1_12 : decode method_4_code 12 = .ok (.dreturn, 1) := by decide +kernel
theorem d1_13 : decode method_4_code 13 = .ok (.iload_n 0, 1) := by decide +kernel
theorem d1_14 : decode method_4_code 14 = .ok (.iconst 2, 1) := by decide +kernel
theorem d1_15 : decode method_4_code 15 = .ok (.if_icmp .ne 5, 3) := by decide +kernel
theorem d1_18 : decode method_4_code 18 = .ok (.dload_n 1, 1) := by decide +kernel
theorem d1_19 : decode method_4_code 19 = .ok (.dreturn, 1) := by decide +kernel
theorem d1_20 : decode method_4_code 20 = .ok (.ldc2_w 37, 3) := by decide +kernel
theorem d1_23 : decode method_4_code 23 = .ok (.dreturn, 1) := by decide +kernel
theorem ef_1 (m : MethodId) (x0 : Int32) (x1 : UInt64) (x2 : UInt64) : entryFrame m #[(.int x0), (.double x1), (.double x2)] 5 = mkF m 0 #[.val (.int x0), .val (.double x1), .second, .val (.double x2), .second] [] := by first | (simp [entryFrame, mkF, argsToLocals, Value.category]; done) | rfl
def f1 (x0 : Int32) (x1 : UInt64) (x2 : UInt64) : UInt64 := (if x0 = (0 : Int32) then (0 : UInt64) else (if x0 = (1 : Int32) then x2 else (if x0 = (2 : Int32) then x1 else (4890909195324358656 : UInt64))))
set_option maxRecDepth 65536 in
set_option maxHeartbeats 40000000 in
theorem rm1 (l : Launch) (Z : State) (a0 : Array Value) (hw : ∀ d ∈ tables_1, d.before a0 Z = true) (x0 : Int32) (x1 : UInt64) (x2 : UInt64) (h0 : Heap) (n0 : Nat) :
    Con l Z (⟨"com/example/footwise/footwise/bench/BenchUsesImpassablePinLaw", "cost", "(IDD)D"⟩ : MethodName) method_4_code 5 (some .double) [] ({ frames := 0, cells := 0, slots := 0, locals := 0 } : Room) #[(.int x0), (.double x1), (.double x2)] h0 (fun v h L => v = some (.double (f1 x0 x1 x2)) ∧ Fr n0 L ∧ h = h0) := by
  refine Con.of (plainFor_of_name pn_0) ?_
  intro p e s m below meth c s₁ X0 hx hby hml hown hnm hret hlk hZ e0
  refine End.cast ?_ (ef_1 m x0 x1 x2)
  have N0 := Fr.nil n0
  refine k_iloadN X0 hx (q := 1) rfl (hb hby d1_0) rfl ?_
  refine k_if_ne X0 hx (q1 := 6) (q := 4) (by decide) (by decide) rfl (hb hby d1_1) (fun hc1 => ?_) (fun hc1 => ?_)
  · refine k_iloadN X0 hx (q := 7) rfl (hb hby d1_6) rfl ?_
    refine k_iconst X0 hx (v := (1 : Int32)) rfl (q := 8) rfl (hb hby d1_7) ?_
    refine k_icmp_ne X0 hx (q1 := 13) (q := 11) (by decide) (by decide) rfl (hb hby d1_8) (fun hc2 => ?_) (fun hc2 => ?_)
    · refine k_iloadN X0 hx (q := 14) rfl (hb hby d1_13) rfl ?_
      refine k_iconst X0 hx (v := (2 : Int32)) rfl (q := 15) rfl (hb hby d1_14) ?_
      refine k_icmp_ne X0 hx (q1 := 20) (q := 18) (by decide) (by decide) rfl (hb hby d1_15) (fun hc3 => ?_) (fun hc3 => ?_)
      · refine k_ldc2D X0 hx hZ (v := (4890909195324358656 : UInt64)) hown (hw _ (List.mem_of_getElem? (i := 44) rfl)) (q := 23) rfl (hb hby d1_20) ?_
        exact k_retD X0 hx hlk (by decide) (by decide) hret (hb hby d1_23) ⟨retD_eq ((((rfl : f1 x0 x1 x2 = _).trans (if_neg hc1)).trans (if_neg hc2)).trans (if_neg hc3)), N0, e0⟩
      · refine k_dloadN X0 hx (q := 19) rfl (hb hby d1_18) rfl ?_
        exact k_retD X0 hx hlk (by decide) (by decide) hret (hb hby d1_19) ⟨retD_eq ((((rfl : f1 x0 x1 x2 = _).trans (if_neg hc1)).trans (if_neg hc2)).trans (if_pos hc3)), N0, e0⟩
    · refine k_dloadN X0 hx (q := 12) rfl (hb hby d1_11) rfl ?_
      exact k_retD X0 hx hlk (by decide) (by decide) hret (hb hby d1_12) ⟨retD_eq (((rfl : f1 x0 x1 x2 = _).trans (if_neg hc1)).trans (if_pos hc2)), N0, e0⟩
  · refine k_dconst0 X0 hx (q := 5) rfl (hb hby d1_4) (v := (0 : UInt64)) (by decide) ?_
    exact k_retD X0 hx hlk (by decide) (by decide) hret (hb hby d1_5) ⟨retD_eq ((rfl : f1 x0 x1 x2 = _).trans (if_pos hc1)), N0, e0⟩
theorem d6_0 : decode method_3_code 0 = .ok (.iload_n 0, 1) := by decide +kernel
theorem d6_1 : decode method_3_code 1 = .ok (.iconst 2, 1) := by decide +kernel
theorem d6_2 : decode method_3_code 2 = .ok (.iload_n 1, 1) := by decide +kernel
theorem d6_3 : decode method_3_code 3 = .ok (.imul, 1) := by decide +kernel
theorem d6_4 : decode method_3_code 4 = .ok (.iushr, 1) := by decide +kernel
theorem d6_5 : decode method_3_code 5 = .ok (.iconst 3, 1) := by decide +kernel
theorem d6_6 : decode method_3_code 6 = .ok (.iand, 1) := by decide +kernel
theorem d6_7 : decode method_3_code 7 = .ok (.ireturn, 1) := by decide +kernel
theorem ef_6 (m : MethodId) (x0 : Int32) (x1 : Int32) : entryFrame m #[(.int x0), (.int x1)] 2 = mkF m 0 #[.val (.int x0), .val (.int x1)] [] := by first | (simp [entryFrame, mkF, argsToLocals, Value.category]; done) | rfl
def f6 (x0 : Int32) (x1 : Int32) : Int32 := (((x0.toUInt32 >>> (((2 : Int32) * x1) &&& 31).toUInt32).toInt32) &&& (3 : Int32))
set_option maxRecDepth 65536 in
set_option maxHeartbeats 40000000 in
theorem rm6 (l : Launch) (Z : State) (a0 : Array Value) (hw : ∀ d ∈ tables_1, d.before a0 Z = true) (x0 : Int32) (x1 : Int32) (h0 : Heap) (n0 : Nat) :
    Con l Z (⟨"com/example/footwise/footwise/bench/BenchUsesImpassablePinLaw", "code", "(II)I"⟩ : MethodName) method_3_code 2 (some .int) [] ({ frames := 0, cells := 0, slots := 0, locals := 0 } : Room) #[(.int x0), (.int x1)] h0 (fun v h L => v = some (.int (f6 x0 x1)) ∧ Fr n0 L ∧ h = h0) := by
  refine Con.of (plainFor_of_name pn_0) ?_
  intro p e s m below meth c s₁ X0 hx hby hml hown hnm hret hlk hZ e0
  refine End.cast ?_ (ef_6 m x0 x1)
  have N0 := Fr.nil n0
  refine k_iloadN X0 hx (q := 1) rfl (hb hby d6_0) rfl ?_
  refine k_iconst X0 hx (v := (2 : Int32)) rfl (q := 2) rfl (hb hby d6_1) ?_
  refine k_iloadN X0 hx (q := 3) rfl (hb hby d6_2) rfl ?_
  refine k_imul X0 hx (q := 4) rfl (hb hby d6_3) ?_
  refine k_iushr X0 hx (q := 5) rfl (hb hby d6_4) ?_
  refine k_iconst X0 hx (v := (3 : Int32)) rfl (q := 6) rfl (hb hby d6_5) ?_
  refine k_iand X0 hx (q := 7) rfl (hb hby d6_6) ?_
  exact k_retI X0 hx hlk (by decide) (by decide) hret (hb hby d6_7) ⟨retI_eq (rfl : f6 x0 x1 = _), N0, e0⟩
def own_of (y0 y1 y2 y3 y4 : Int32) : Nat → Int32 := fun t => if t = 0 then y0 else if t = 1 then y1 else if t = 2 then y2 else if t = 3 then y3 else y4
theorem own_5 {t : Nat} (h : t < 5) : t = 0 ∨ t = 1 ∨ t = 2 ∨ t = 3 ∨ t = 4 := by omega
theorem d2_0 : decode method_5_code 0 = .ok (.iload_n 0, 1) := by decide +kernel
theorem d2_1 : decode method_5_code 1 = .ok (.ifCond .ne 7, 3) := by decide +kernel
theorem d2_4 : decode method_5_code 4 = .ok (.iconst 0, 1) := by decide +kernel
theorem d2_5 : decode method_5_code 5 = .ok (.newarray .int, 2) := by decide +kernel
theorem d2_7 : decode method_5_code 7 = .ok (.areturn, 1) := by decide +kernel
theorem d2_8 : decode method_5_code 8 = .ok (.iload_n 0, 1) := by decide +kernel
theorem d2_9 : decode method_5_code 9 = .ok (.iconst 1, 1) := by decide +kernel
theorem d2_10 : decode method_5_code 10 = .ok (.if_icmp .ne 11, 3) := by decide +kernel
theorem d2_13 : decode method_5_code 13 = .ok (.iconst 1, 1) := by decide +kernel
theorem d2_14 : decode method_5_code 14 = .ok (.newarray .int, 2) := by decide +kernel
theorem d2_16 : decode method_5_code 16 = .ok (.dup, 1) := by decide +kernel
theorem d2_17 : decode method_5_code 17 = .ok (.iconst 0, 1) := by decide +kernel
theorem d2_18 : decode method_5_code 18 = .ok (.iload_n 1, 1) := by decide +kernel
theorem d2_19 : decode method_5_code 19 = .ok (.iastore, 1) := by decide +kernel
theorem d2_20 : decode method_5_code 20 = .ok (.areturn, 1) := by decide +kernel
theorem d2_21 : decode method_5_code 21 = .ok (.iload_n 0, 1) := by decide +kernel
theorem d2_22 : decode method_5_code 22 = .ok (.iconst 2, 1) := by decide +kernel
theorem d2_23 : decode method_5_code 23 = .ok (.if_icmp .ne 15, 3) := by decide +kernel
theorem d2_26 : decode method_5_code 26 = .ok (.iconst 2, 1) := by decide +kernel
theorem d2_27 : decode method_5_code 27 = .ok (.newarray .int, 2) := by decide +kernel
theorem d2_29 : decode method_5_code 29 = .ok (.dup, 1) := by decide +kernel
theorem d2_30 : decode method_5_code 30 = .ok (.iconst 0, 1) := by decide +kernel
theorem d2_31 : decode method_5_code 31 = .ok (.iload_n 1, 1) := by decide +kernel
theorem d2_32 : decode method_5_code 32 = .ok (.iastore, 1) := by decide +kernel
theorem d2_33 : decode method_5_code 33 = .ok (.dup, 1) := by decide +kernel
theorem d2_34 : decode method_5_code 34 = .ok (.iconst 1, 1) := by decide +kernel
theorem d2_35 : decode method_5_code 35 = .ok (.iload_n 2, 1) := by decide +kernel
theorem d2_36 : decode method_5_code 36 = .ok (.iastore, 1) := by decide +kernel
theorem d2_37 : decode method_5_code 37 = .ok (.areturn, 1) := by decide +kernel
theorem d2_38 : decode method_5_code 38 = .ok (.iload_n 0, 1) := by decide +kernel
theorem d2_39 : decode method_5_code 39 = .ok (.iconst 3, 1) := by decide +kernel
theorem d2_40 : decode method_5_code 40 = .ok (.if_icmp .ne 19, 3) := by decide +kernel
theorem d2_43 : decode method_5_code 43 = .ok (.iconst 3, 1) := by decide +kernel
theorem d2_44 : decode method_5_code 44 = .ok (.newarray .int, 2) := by decide +kernel
theorem d2_46 : decode method_5_code 46 = .ok (.dup, 1) := by decide +kernel
theorem d2_47 : decode method_5_code 47 = .ok (.iconst 0, 1) := by decide +kernel
theorem d2_48 : decode method_5_code 48 = .ok (.iload_n 1, 1) := by decide +kernel
theorem d2_49 : decode method_5_code 49 = .ok (.iastore, 1) := by decide +kernel
theorem d2_50 : decode method_5_code 50 = .ok (.dup, 1) := by decide +kernel
theorem d2_51 : decode method_5_code 51 = .ok (.iconst 1, 1) := by decide +kernel
theorem d2_52 : decode method_5_code 52 = .ok (.iload_n 2, 1) := by decide +kernel
theorem d2_53 : decode method_5_code 53 = .ok (.iastore, 1) := by decide +kernel
theorem d2_54 : decode method_5_code 54 = .ok (.dup, 1) := by decide +kernel
theorem d2_55 : decode method_5_code 55 = .ok (.iconst 2, 1) := by decide +kernel
theorem d2_56 : decode method_5_code 56 = .ok (.iload_n 3, 1) := by decide +kernel
theorem d2_57 : decode method_5_code 57 = .ok (.iastore, 1) := by decide +kernel
theorem d2_58 : decode method_5_code 58 = .ok (.areturn, 1) := by decide +kernel
theorem d2_59 : decode method_5_code 59 = .ok (.iload_n 0, 1) := by decide +kernel
theorem d2_60 : decode method_5_code 60 = .ok (.iconst 4, 1) := by decide +kernel
theorem d2_61 : decode method_5_code 61 = .ok (.if_icmp .ne 24, 3) := by decide +kernel
theorem d2_64 : decode method_5_code 64 = .ok (.iconst 4, 1) := by decide +kernel
theorem d2_65 : decode method_5_code 65 = .ok (.newarray .int, 2) := by decide +kernel
theorem d2_67 : decode method_5_code 67 = .ok (.dup, 1) := by decide +kernel
theorem d2_68 : decode method_5_code 68 = .ok (.iconst 0, 1) := by decide +kernel
theorem d2_69 : decode method_5_code 69 = .ok (.iload_n 1, 1) := by decide +kernel
theorem d2_70 : decode method_5_code 70 = .ok (.iastore, 1) := by decide +kernel
theorem d2_71 : decode method_5_code 71 = .ok (.dup, 1) := by decide +kernel
theorem d2_72 : decode method_5_code 72 = .ok (.iconst 1, 1) := by decide +kernel
theorem d2_73 : decode method_5_code 73 = .ok (.iload_n 2, 1) := by decide +kernel
theorem d2_74 : decode method_5_code 74 = .ok (.iastore, 1) := by decide +kernel
theorem d2_75 : decode method_5_code 75 = .ok (.dup, 1) := by decide +kernel
theorem d2_76 : decode method_5_code 76 = .ok (.iconst 2, 1) := by decide +kernel
theorem d2_77 : decode method_5_code 77 = .ok (.iload_n 3, 1) := by decide +kernel
theorem d2_78 : decode method_5_code 78 = .ok (.iastore, 1) := by decide +kernel
theorem d2_79 : decode method_5_code 79 = .ok (.dup, 1) := by decide +kernel
theorem d2_80 : decode method_5_code 80 = .ok (.iconst 3, 1) := by decide +kernel
theorem d2_81 : decode method_5_code 81 = .ok (.iload 4, 2) := by decide +kernel
theorem d2_83 : decode method_5_code 83 = .ok (.iastore, 1) := by decide +kernel
theorem d2_84 : decode method_5_code 84 = .ok (.areturn, 1) := by decide +kernel
theorem d2_85 : decode method_5_code 85 = .ok (.iconst 5, 1) := by decide +kernel
theorem d2_86 : decode method_5_code 86 = .ok (.newarray .int, 2) := by decide +kernel
theorem d2_88 : decode method_5_code 88 = .ok (.dup, 1) := by decide +kernel
theorem d2_89 : decode method_5_code 89 = .ok (.iconst 0, 1) := by decide +kernel
theorem d2_90 : decode method_5_code 90 = .ok (.iload_n 1, 1) := by decide +kernel
theorem d2_91 : decode method_5_code 91 = .ok (.iastore, 1) := by decide +kernel
theorem d2_92 : decode method_5_code 92 = .ok (.dup, 1) := by decide +kernel
theorem d2_93 : decode method_5_code 93 = .ok (.iconst 1, 1) := by decide +kernel
theorem d2_94 : decode method_5_code 94 = .ok (.iload_n 2, 1) := by decide +kernel
theorem d2_95 : decode method_5_code 95 = .ok (.iastore, 1) := by decide +kernel
theorem d2_96 : decode method_5_code 96 = .ok (.dup, 1) := by decide +kernel
theorem d2_97 : decode method_5_code 97 = .ok (.iconst 2, 1) := by decide +kernel
theorem d2_98 : decode method_5_code 98 = .ok (.iload_n 3, 1) := by decide +kernel
theorem d2_99 : decode method_5_code 99 = .ok (.iastore, 1) := by decide +kernel
theorem d2_100 : decode method_5_code 100 = .ok (.dup, 1) := by decide +kernel
theorem d2_101 : decode method_5_code 101 = .ok (.iconst 3, 1) := by decide +kernel
theorem d2_102 : decode method_5_code 102 = .ok (.iload 4, 2) := by decide +kernel
theorem d2_104 : decode method_5_code 104 = .ok (.iastore, 1) := by decide +kernel
theorem d2_105 : decode method_5_code 105 = .ok (.dup, 1) := by decide +kernel
theorem d2_106 : decode method_5_code 106 = .ok (.iconst 4, 1) := by decide +kernel
theorem d2_107 : decode method_5_code 107 = .ok (.iload 5, 2) := by decide +kernel
theorem d2_109 : decode method_5_code 109 = .ok (.iastore, 1) := by decide +kernel
theorem d2_110 : decode method_5_code 110 = .ok (.areturn, 1) := by decide +kernel
theorem ef_2 (m : MethodId) (x0 : Int32) (x1 : Int32) (x2 : Int32) (x3 : Int32) (x4 : Int32) (x5 : Int32) : entryFrame m #[(.int x0), (.int x1), (.int x2), (.int x3), (.int x4), (.int x5)] 6 = mkF m 0 #[.val (.int x0), .val (.int x1), .val (.int x2), .val (.int x3), .val (.int x4), .val (.int x5)] [] := by first | (simp [entryFrame, mkF, argsToLocals, Value.category]; done) | rfl
set_option maxRecDepth 65536 in
set_option maxHeartbeats 40000000 in
theorem rm2 (l : Launch) (Z : State) (a0 : Array Value) (hw : ∀ d ∈ tables_1, d.before a0 Z = true) (x0 : Int32) (x1 : Int32) (x2 : Int32) (x3 : Int32) (x4 : Int32) (x5 : Int32) (h0 : Heap) (n0 : Nat) (Z0 : n0 ≤ h0.size) (k : Nat) (hk : Ix x0 k) (hk5 : k ≤ 5) :
    Con l Z (⟨"com/example/footwise/footwise/bench/BenchUsesImpassablePinLaw", "ofLength", "(IIIIII)[I"⟩ : MethodName) method_5_code 6 (some (.array .int)) [] ({ frames := 0, cells := 1, slots := 5, locals := 0 } : Room) #[(.int x0), (.int x1), (.int x2), (.int x3), (.int x4), (.int x5)] h0 (fun v h L => ∃ a : Addr, v = some (.ref a) ∧ Fr n0 L ∧ Keep h0 h [] ∧ h0.size ≤ a ∧ Ary Z h a .int k (fun t => .int (own_of x1 x2 x3 x4 x5 t))) := by
  refine Con.of (plainFor_of_name pn_0) ?_
  intro p e s m below meth c s₁ X0 hx hby hml hown hnm hret hlk hZ e0
  refine End.cast ?_ (ef_2 m x0 x1 x2 x3 x4 x5)
  have N0 := Fr.nil n0
  refine k_iloadN X0 hx (q := 1) rfl (hb hby d2_0) rfl ?_
  refine k_if_ne X0 hx (q1 := 8) (q := 4) (by decide) (by decide) rfl (hb hby d2_1) (fun hc1 => ?_) (fun hc1 => ?_)
  · refine k_iloadN X0 hx (q := 9) rfl (hb hby d2_8) rfl ?_
    refine k_iconst X0 hx (v := (1 : Int32)) rfl (q := 10) rfl (hb hby d2_9) ?_
    refine k_icmp_ne X0 hx (q1 := 21) (q := 13) (by decide) (by decide) rfl (hb hby d2_10) (fun hc4 => ?_) (fun hc4 => ?_)
    · refine k_iloadN X0 hx (q := 22) rfl (hb hby d2_21) rfl ?_
      refine k_iconst X0 hx (v := (2 : Int32)) rfl (q := 23) rfl (hb hby d2_22) ?_
      refine k_icmp_ne X0 hx (q1 := 38) (q := 26) (by decide) (by decide) rfl (hb hby d2_23) (fun hc9 => ?_) (fun hc9 => ?_)
      · refine k_iloadN X0 hx (q := 39) rfl (hb hby d2_38) rfl ?_
        refine k_iconst X0 hx (v := (3 : Int32)) rfl (q := 40) rfl (hb hby d2_39) ?_
        refine k_icmp_ne X0 hx (q1 := 59) (q := 43) (by decide) (by decide) rfl (hb hby d2_40) (fun hc16 => ?_) (fun hc16 => ?_)
        · refine k_iloadN X0 hx (q := 60) rfl (hb hby d2_59) rfl ?_
          refine k_iconst X0 hx (v := (4 : Int32)) rfl (q := 61) rfl (hb hby d2_60) ?_
          refine k_icmp_ne X0 hx (q1 := 85) (q := 64) (by decide) (by decide) rfl (hb hby d2_61) (fun hc25 => ?_) (fun hc25 => ?_)
          · refine k_iconst X0 hx (v := (5 : Int32)) rfl (q := 86) rfl (hb hby d2_85) ?_
            refine k_newP X0 hx hZ (hw _ (List.mem_of_getElem? (i := 10) rfl)) e0 (q := 88) rfl (hb hby d2_86) (by decide) (cap := 5) (by decide) (by decide) (by decide) (by decide) ?_
            intro T36 h36 a36 k36 X36 e36 g36 E36 A36
            have K36 := Keep.of_ext E36
            have V36 : Ary Z h36 a36 .int 5 (fun _ => .int (0 : Int32)) := Ary.new A36 (by decide) rfl
            refine k_dup X36 hx (q := 89) rfl (hb hby d2_88) rfl ?_
            refine k_iconst X36 hx (v := (0 : Int32)) rfl (q := 90) rfl (hb hby d2_89) ?_
            refine k_iloadN X36 hx (q := 91) rfl (hb hby d2_90) rfl ?_
            have ge_a36 : n0 ≤ a36 := Nat.le_trans Z0 (Nat.le_of_eq g36.symm)
            refine k_asI X36 hx hZ e36 0 (q := 92) rfl (hb hby d2_91) V36 ⟨by decide, by decide⟩ (by decide) ?_
            intro T37 h37 X37 e37 W37 V37
            have K37 := Keep.of_wr W37
            have N37 := Fr.snoc X37 N0 ge_a36
            refine k_dup X37 hx (q := 93) rfl (hb hby d2_92) rfl ?_
            refine k_iconst X37 hx (v := (1 : Int32)) rfl (q := 94) rfl (hb hby d2_93) ?_
            refine k_iloadN X37 hx (q := 95) rfl (hb hby d2_94) rfl ?_
            refine k_asI X37 hx hZ e37 1 (q := 96) rfl (hb hby d2_95) V37 ⟨by decide, by decide⟩ (by decide) ?_
            intro T38 h38 X38 e38 W38 V38
            have K38 := Keep.of_wr W38
            have N38 := Fr.snoc X38 N37 ge_a36
            refine k_dup X38 hx (q := 97) rfl (hb hby d2_96) rfl ?_
            refine k_iconst X38 hx (v := (2 : Int32)) rfl (q := 98) rfl (hb hby d2_97) ?_
            refine k_iloadN X38 hx (q := 99) rfl (hb hby d2_98) rfl ?_
            refine k_asI X38 hx hZ e38 2 (q := 100) rfl (hb hby d2_99) V38 ⟨by decide, by decide⟩ (by decide) ?_
            intro T39 h39 X39 e39 W39 V39
            have K39 := Keep.of_wr W39
            have N39 := Fr.snoc X39 N38 ge_a36
            refine k_dup X39 hx (q := 101) rfl (hb hby d2_100) rfl ?_
            refine k_iconst X39 hx (v := (3 : Int32)) rfl (q := 102) rfl (hb hby d2_101) ?_
            refine k_iload X39 hx (q := 104) rfl (hb hby d2_102) rfl ?_
            refine k_asI X39 hx hZ e39 3 (q := 105) rfl (hb hby d2_104) V39 ⟨by decide, by decide⟩ (by decide) ?_
            intro T40 h40 X40 e40 W40 V40
            have K40 := Keep.of_wr W40
            have N40 := Fr.snoc X40 N39 ge_a36
            refine k_dup X40 hx (q := 106) rfl (hb hby d2_105) rfl ?_
            refine k_iconst X40 hx (v := (4 : Int32)) rfl (q := 107) rfl (hb hby d2_106) ?_
            refine k_iload X40 hx (q := 109) rfl (hb hby d2_107) rfl ?_
            refine k_asI X40 hx hZ e40 4 (q := 110) rfl (hb hby d2_109) V40 ⟨by decide, by decide⟩ (by decide) ?_
            intro T41 h41 X41 e41 W41 V41
            have K41 := Keep.of_wr W41
            have N41 := Fr.snoc X41 N40 ge_a36
            have Kp42 : Keep h0 h36 [] := Keep.trans (Keep.refl h0 []) K36 all0
            have Kp43 : Keep h0 h37 [] := Keep.trans Kp42 K37 (allS (Or.inr (Nat.le_trans (Keep.refl h0 []).1 (Nat.le_of_eq g36.symm))) all0)
            have Kp44 : Keep h0 h38 [] := Keep.trans Kp43 K38 (allS (Or.inr (Nat.le_trans (Keep.refl h0 []).1 (Nat.le_of_eq g36.symm))) all0)
            have Kp45 : Keep h0 h39 [] := Keep.trans Kp44 K39 (allS (Or.inr (Nat.le_trans (Keep.refl h0 []).1 (Nat.le_of_eq g36.symm))) all0)
            have Kp46 : Keep h0 h40 [] := Keep.trans Kp45 K40 (allS (Or.inr (Nat.le_trans (Keep.refl h0 []).1 (Nat.le_of_eq g36.symm))) all0)
            have Kp47 : Keep h0 h41 [] := Keep.trans Kp46 K41 (allS (Or.inr (Nat.le_trans (Keep.refl h0 []).1 (Nat.le_of_eq g36.symm))) all0)
            have hk5 : k = 5 := by
              have e0 := mt (own_eqi hk (m := 0) (n := 0) ⟨by decide, by decide⟩).mpr hc1
              have e1 := mt (own_eqi hk (m := 1) (n := 1) ⟨by decide, by decide⟩).mpr hc4
              have e2 := mt (own_eqi hk (m := 2) (n := 2) ⟨by decide, by decide⟩).mpr hc9
              have e3 := mt (own_eqi hk (m := 3) (n := 3) ⟨by decide, by decide⟩).mpr hc16
              have e4 := mt (own_eqi hk (m := 4) (n := 4) ⟨by decide, by decide⟩).mpr hc25
              omega
            exact k_retA X41 hx hlk (by decide) (by decide) hret rfl rfl (hb hby d2_110) ⟨a36, rfl, N41, by rw [e41]; exact Kp47, by subst g36; exact Nat.le_refl _, by rw [e41, hk5]; exact V41.congr fun t ht => by rcases own_5 (Nat.lt_of_lt_of_le ht (by decide)) with rfl | rfl | rfl | rfl | rfl <;> first | rfl | (exact absurd ht (by decide))⟩
          · refine k_iconst X0 hx (v := (4 : Int32)) rfl (q := 65) rfl (hb hby d2_64) ?_
            refine k_newP X0 hx hZ (hw _ (List.mem_of_getElem? (i := 10) rfl)) e0 (q := 67) rfl (hb hby d2_65) (by decide) (cap := 4) (by decide) (by decide) (by decide) (by decide) ?_
            intro T26 h26 a26 k26 X26 e26 g26 E26 A26
            have K26 := Keep.of_ext E26
            have V26 : Ary Z h26 a26 .int 4 (fun _ => .int (0 : Int32)) := Ary.new A26 (by decide) rfl
            refine k_dup X26 hx (q := 68) rfl (hb hby d2_67) rfl ?_
            refine k_iconst X26 hx (v := (0 : Int32)) rfl (q := 69) rfl (hb hby d2_68) ?_
            refine k_iloadN X26 hx (q := 70) rfl (hb hby d2_69) rfl ?_
            have ge_a26 : n0 ≤ a26 := Nat.le_trans Z0 (Nat.le_of_eq g26.symm)
            refine k_asI X26 hx hZ e26 0 (q := 71) rfl (hb hby d2_70) V26 ⟨by decide, by decide⟩ (by decide) ?_
            intro T27 h27 X27 e27 W27 V27
            have K27 := Keep.of_wr W27
            have N27 := Fr.snoc X27 N0 ge_a26
            refine k_dup X27 hx (q := 72) rfl (hb hby d2_71) rfl ?_
            refine k_iconst X27 hx (v := (1 : Int32)) rfl (q := 73) rfl (hb hby d2_72) ?_
            refine k_iloadN X27 hx (q := 74) rfl (hb hby d2_73) rfl ?_
            refine k_asI X27 hx hZ e27 1 (q := 75) rfl (hb hby d2_74) V27 ⟨by decide, by decide⟩ (by decide) ?_
            intro T28 h28 X28 e28 W28 V28
            have K28 := Keep.of_wr W28
            have N28 := Fr.snoc X28 N27 ge_a26
            refine k_dup X28 hx (q := 76) rfl (hb hby d2_75) rfl ?_
            refine k_iconst X28 hx (v := (2 : Int32)) rfl (q := 77) rfl (hb hby d2_76) ?_
            refine k_iloadN X28 hx (q := 78) rfl (hb hby d2_77) rfl ?_
            refine k_asI X28 hx hZ e28 2 (q := 79) rfl (hb hby d2_78) V28 ⟨by decide, by decide⟩ (by decide) ?_
            intro T29 h29 X29 e29 W29 V29
            have K29 := Keep.of_wr W29
            have N29 := Fr.snoc X29 N28 ge_a26
            refine k_dup X29 hx (q := 80) rfl (hb hby d2_79) rfl ?_
            refine k_iconst X29 hx (v := (3 : Int32)) rfl (q := 81) rfl (hb hby d2_80) ?_
            refine k_iload X29 hx (q := 83) rfl (hb hby d2_81) rfl ?_
            refine k_asI X29 hx hZ e29 3 (q := 84) rfl (hb hby d2_83) V29 ⟨by decide, by decide⟩ (by decide) ?_
            intro T30 h30 X30 e30 W30 V30
            have K30 := Keep.of_wr W30
            have N30 := Fr.snoc X30 N29 ge_a26
            have Kp31 : Keep h0 h26 [] := Keep.trans (Keep.refl h0 []) K26 all0
            have Kp32 : Keep h0 h27 [] := Keep.trans Kp31 K27 (allS (Or.inr (Nat.le_trans (Keep.refl h0 []).1 (Nat.le_of_eq g26.symm))) all0)
            have Kp33 : Keep h0 h28 [] := Keep.trans Kp32 K28 (allS (Or.inr (Nat.le_trans (Keep.refl h0 []).1 (Nat.le_of_eq g26.symm))) all0)
            have Kp34 : Keep h0 h29 [] := Keep.trans Kp33 K29 (allS (Or.inr (Nat.le_trans (Keep.refl h0 []).1 (Nat.le_of_eq g26.symm))) all0)
            have Kp35 : Keep h0 h30 [] := Keep.trans Kp34 K30 (allS (Or.inr (Nat.le_trans (Keep.refl h0 []).1 (Nat.le_of_eq g26.symm))) all0)
            have hk4 : k = 4 := (own_eqi hk (m := (4 : Int32)) (n := 4) ⟨by decide, by decide⟩).mp hc25
            exact k_retA X30 hx hlk (by decide) (by decide) hret rfl rfl (hb hby d2_84) ⟨a26, rfl, N30, by rw [e30]; exact Kp35, by subst g26; exact Nat.le_refl _, by rw [e30, hk4]; exact V30.congr fun t ht => by rcases own_5 (Nat.lt_of_lt_of_le ht (by decide)) with rfl | rfl | rfl | rfl | rfl <;> first | rfl | (exact absurd ht (by decide))⟩
        · refine k_iconst X0 hx (v := (3 : Int32)) rfl (q := 44) rfl (hb hby d2_43) ?_
          refine k_newP X0 hx hZ (hw _ (List.mem_of_getElem? (i := 10) rfl)) e0 (q := 46) rfl (hb hby d2_44) (by decide) (cap := 3) (by decide) (by decide) (by decide) (by decide) ?_
          intro T17 h17 a17 k17 X17 e17 g17 E17 A17
          have K17 := Keep.of_ext E17
          have V17 : Ary Z h17 a17 .int 3 (fun _ => .int (0 : Int32)) := Ary.new A17 (by decide) rfl
          refine k_dup X17 hx (q := 47) rfl (hb hby d2_46) rfl ?_
          refine k_iconst X17 hx (v := (0 : Int32)) rfl (q := 48) rfl (hb hby d2_47) ?_
          refine k_iloadN X17 hx (q := 49) rfl (hb hby d2_48) rfl ?_
          have ge_a17 : n0 ≤ a17 := Nat.le_trans Z0 (Nat.le_of_eq g17.symm)
          refine k_asI X17 hx hZ e17 0 (q := 50) rfl (hb hby d2_49) V17 ⟨by decide, by decide⟩ (by decide) ?_
          intro T18 h18 X18 e18 W18 V18
          have K18 := Keep.of_wr W18
          have N18 := Fr.snoc X18 N0 ge_a17
          refine k_dup X18 hx (q := 51) rfl (hb hby d2_50) rfl ?_
          refine k_iconst X18 hx (v := (1 : Int32)) rfl (q := 52) rfl (hb hby d2_51) ?_
          refine k_iloadN X18 hx (q := 53) rfl (hb hby d2_52) rfl ?_
          refine k_asI X18 hx hZ e18 1 (q := 54) rfl (hb hby d2_53) V18 ⟨by decide, by decide⟩ (by decide) ?_
          intro T19 h19 X19 e19 W19 V19
          have K19 := Keep.of_wr W19
          have N19 := Fr.snoc X19 N18 ge_a17
          refine k_dup X19 hx (q := 55) rfl (hb hby d2_54) rfl ?_
          refine k_iconst X19 hx (v := (2 : Int32)) rfl (q := 56) rfl (hb hby d2_55) ?_
          refine k_iloadN X19 hx (q := 57) rfl (hb hby d2_56) rfl ?_
          refine k_asI X19 hx hZ e19 2 (q := 58) rfl (hb hby d2_57) V19 ⟨by decide, by decide⟩ (by decide) ?_
          intro T20 h20 X20 e20 W20 V20
          have K20 := Keep.of_wr W20
          have N20 := Fr.snoc X20 N19 ge_a17
          have Kp21 : Keep h0 h17 [] := Keep.trans (Keep.refl h0 []) K17 all0
          have Kp22 : Keep h0 h18 [] := Keep.trans Kp21 K18 (allS (Or.inr (Nat.le_trans (Keep.refl h0 []).1 (Nat.le_of_eq g17.symm))) all0)
          have Kp23 : Keep h0 h19 [] := Keep.trans Kp22 K19 (allS (Or.inr (Nat.le_trans (Keep.refl h0 []).1 (Nat.le_of_eq g17.symm))) all0)
          have Kp24 : Keep h0 h20 [] := Keep.trans Kp23 K20 (allS (Or.inr (Nat.le_trans (Keep.refl h0 []).1 (Nat.le_of_eq g17.symm))) all0)
          have hk3 : k = 3 := (own_eqi hk (m := (3 : Int32)) (n := 3) ⟨by decide, by decide⟩).mp hc16
          exact k_retA X20 hx hlk (by decide) (by decide) hret rfl rfl (hb hby d2_58) ⟨a17, rfl, N20, by rw [e20]; exact Kp24, by subst g17; exact Nat.le_refl _, by rw [e20, hk3]; exact V20.congr fun t ht => by rcases own_5 (Nat.lt_of_lt_of_le ht (by decide)) with rfl | rfl | rfl | rfl | rfl <;> first | rfl | (exact absurd ht (by decide))⟩
      · refine k_iconst X0 hx (v := (2 : Int32)) rfl (q := 27) rfl (hb hby d2_26) ?_
        refine k_newP X0 hx hZ (hw _ (List.mem_of_getElem? (i := 10) rfl)) e0 (q := 29) rfl (hb hby d2_27) (by decide) (cap := 2) (by decide) (by decide) (by decide) (by decide) ?_
        intro T10 h10 a10 k10 X10 e10 g10 E10 A10
        have K10 := Keep.of_ext E10
        have V10 : Ary Z h10 a10 .int 2 (fun _ => .int (0 : Int32)) := Ary.new A10 (by decide) rfl
        refine k_dup X10 hx (q := 30) rfl (hb hby d2_29) rfl ?_
        refine k_iconst X10 hx (v := (0 : Int32)) rfl (q := 31) rfl (hb hby d2_30) ?_
        refine k_iloadN X10 hx (q := 32) rfl (hb hby d2_31) rfl ?_
        have ge_a10 : n0 ≤ a10 := Nat.le_trans Z0 (Nat.le_of_eq g10.symm)
        refine k_asI X10 hx hZ e10 0 (q := 33) rfl (hb hby d2_32) V10 ⟨by decide, by decide⟩ (by decide) ?_
        intro T11 h11 X11 e11 W11 V11
        have K11 := Keep.of_wr W11
        have N11 := Fr.snoc X11 N0 ge_a10
        refine k_dup X11 hx (q := 34) rfl (hb hby d2_33) rfl ?_
        refine k_iconst X11 hx (v := (1 : Int32)) rfl (q := 35) rfl (hb hby d2_34) ?_
        refine k_iloadN X11 hx (q := 36) rfl (hb hby d2_35) rfl ?_
        refine k_asI X11 hx hZ e11 1 (q := 37) rfl (hb hby d2_36) V11 ⟨by decide, by decide⟩ (by decide) ?_
        intro T12 h12 X12 e12 W12 V12
        have K12 := Keep.of_wr W12
        have N12 := Fr.snoc X12 N11 ge_a10
        have Kp13 : Keep h0 h10 [] := Keep.trans (Keep.refl h0 []) K10 all0
        have Kp14 : Keep h0 h11 [] := Keep.trans Kp13 K11 (allS (Or.inr (Nat.le_trans (Keep.refl h0 []).1 (Nat.le_of_eq g10.symm))) all0)
        have Kp15 : Keep h0 h12 [] := Keep.trans Kp14 K12 (allS (Or.inr (Nat.le_trans (Keep.refl h0 []).1 (Nat.le_of_eq g10.symm))) all0)
        have hk2 : k = 2 := (own_eqi hk (m := (2 : Int32)) (n := 2) ⟨by decide, by decide⟩).mp hc9
        exact k_retA X12 hx hlk (by decide) (by decide) hret rfl rfl (hb hby d2_37) ⟨a10, rfl, N12, by rw [e12]; exact Kp15, by subst g10; exact Nat.le_refl _, by rw [e12, hk2]; exact V12.congr fun t ht => by rcases own_5 (Nat.lt_of_lt_of_le ht (by decide)) with rfl | rfl | rfl | rfl | rfl <;> first | rfl | (exact absurd ht (by decide))⟩
    · refine k_iconst X0 hx (v := (1 : Int32)) rfl (q := 14) rfl (hb hby d2_13) ?_
      refine k_newP X0 hx hZ (hw _ (List.mem_of_getElem? (i := 10) rfl)) e0 (q := 16) rfl (hb hby d2_14) (by decide) (cap := 1) (by decide) (by decide) (by decide) (by decide) ?_
      intro T5 h5 a5 k5 X5 e5 g5 E5 A5
      have K5 := Keep.of_ext E5
      have V5 : Ary Z h5 a5 .int 1 (fun _ => .int (0 : Int32)) := Ary.new A5 (by decide) rfl
      refine k_dup X5 hx (q := 17) rfl (hb hby d2_16) rfl ?_
      refine k_iconst X5 hx (v := (0 : Int32)) rfl (q := 18) rfl (hb hby d2_17) ?_
      refine k_iloadN X5 hx (q := 19) rfl (hb hby d2_18) rfl ?_
      have ge_a5 : n0 ≤ a5 := Nat.le_trans Z0 (Nat.le_of_eq g5.symm)
      refine k_asI X5 hx hZ e5 0 (q := 20) rfl (hb hby d2_19) V5 ⟨by decide, by decide⟩ (by decide) ?_
      intro T6 h6 X6 e6 W6 V6
      have K6 := Keep.of_wr W6
      have N6 := Fr.snoc X6 N0 ge_a5
      have Kp7 : Keep h0 h5 [] := Keep.trans (Keep.refl h0 []) K5 all0
      have Kp8 : Keep h0 h6 [] := Keep.trans Kp7 K6 (allS (Or.inr (Nat.le_trans (Keep.refl h0 []).1 (Nat.le_of_eq g5.symm))) all0)
      have hk1 : k = 1 := (own_eqi hk (m := (1 : Int32)) (n := 1) ⟨by decide, by decide⟩).mp hc4
      exact k_retA X6 hx hlk (by decide) (by decide) hret rfl rfl (hb hby d2_20) ⟨a5, rfl, N6, by rw [e6]; exact Kp8, by subst g5; exact Nat.le_refl _, by rw [e6, hk1]; exact V6.congr fun t ht => by rcases own_5 (Nat.lt_of_lt_of_le ht (by decide)) with rfl | rfl | rfl | rfl | rfl <;> first | rfl | (exact absurd ht (by decide))⟩
  · refine k_iconst X0 hx (v := (0 : Int32)) rfl (q := 5) rfl (hb hby d2_4) ?_
    refine k_newP X0 hx hZ (hw _ (List.mem_of_getElem? (i := 10) rfl)) e0 (q := 7) rfl (hb hby d2_5) (by decide) (cap := 0) (by decide) (by decide) (by decide) (by decide) ?_
    intro T2 h2 a2 k2 X2 e2 g2 E2 A2
    have K2 := Keep.of_ext E2
    have V2 : Ary Z h2 a2 .int 0 (fun _ => .int (0 : Int32)) := Ary.new A2 (by decide) rfl
    have Kp3 : Keep h0 h2 [] := Keep.trans (Keep.refl h0 []) K2 all0
    have hk0 : k = 0 := (own_eqi hk (m := (0 : Int32)) (n := 0) ⟨by decide, by decide⟩).mp hc1
    exact k_retA X2 hx hlk (by decide) (by decide) hret rfl rfl (hb hby d2_7) ⟨a2, rfl, N0, by rw [e2]; exact Kp3, by subst g2; exact Nat.le_refl _, by rw [e2, hk0]; exact V2.congr fun t ht => by rcases own_5 (Nat.lt_of_lt_of_le ht (by decide)) with rfl | rfl | rfl | rfl | rfl <;> first | rfl | (exact absurd ht (by decide))⟩
theorem d4_0 : decode jdk_30_method_1_code 0 = .ok (.aload_n 0, 1) := by decide +kernel
theorem d4_1 : decode jdk_30_method_1_code 1 = .ok (.invokespecial 1, 3) := by decide +kernel
theorem d4_4 : decode jdk_30_method_1_code 4 = .ok (.return_, 1) := by decide +kernel
theorem ef_4 (m : MethodId) (x0 : Addr) : entryFrame m #[(.ref x0)] 1 = mkF m 0 #[.val (.ref x0)] [] := by first | (simp [entryFrame, mkF, argsToLocals, Value.category]; done) | rfl
set_option maxRecDepth 65536 in
set_option maxHeartbeats 40000000 in
theorem rm4 (l : Launch) (Z : State) (a0 : Array Value) (hw : ∀ d ∈ tables_1, d.before a0 Z = true) (x0 : Addr) (h0 : Heap) (n0 : Nat) :
    Con l Z (⟨"java/lang/Record", "<init>", "()V"⟩ : MethodName) jdk_30_method_1_code 1 none [] ({ frames := 1, cells := 0, slots := 0, locals := 12 } : Room) #[(.ref x0)] h0 (fun v h L => v = none ∧ Fr n0 L ∧ h = h0) := by
  refine Con.of (plainFor_of_name pn_1) ?_
  intro p e s m below meth c s₁ X0 hx hby hml hown hnm hret hlk hZ e0
  refine End.cast ?_ (ef_4 m x0)
  have N0 := Fr.nil n0
  refine k_aloadN X0 hx (q := 1) rfl (hb hby d4_0) rfl rfl ?_
  refine k_initO X0 hx hZ hown (hw _ (List.mem_of_getElem? (i := 22) rfl)) (hw _ (List.mem_of_getElem? (i := 23) rfl)) (hw _ (List.mem_of_getElem? (i := 24) rfl)) e0 (q := 4) rfl (hb hby d4_1) (by rw [hml]; rfl) (by decide) 0 (by first | exact Nat.le_refl _ | simp [Value.category]) (by decide) ?_
  intro T1 X1 e1
  exact k_retV X1 hx hlk (by decide) (by decide) hret (hb hby d4_4) ⟨rfl, N0, e1⟩
theorem d3_0 : decode prog_43_method_1_code 0 = .ok (.aload_n 0, 1) := by decide +kernel
theorem d3_1 : decode prog_43_method_1_code 1 = .ok (.invokespecial 1, 3) := by decide +kernel
theorem d3_4 : decode prog_43_method_1_code 4 = .ok (.aload_n 0, 1) := by decide +kernel
theorem d3_5 : decode prog_43_method_1_code 5 = .ok (.aload_n 1, 1) := by decide +kernel
theorem d3_6 : decode prog_43_method_1_code 6 = .ok (.putfield 7, 3) := by decide +kernel
theorem d3_9 : decode prog_43_method_1_code 9 = .ok (.aload_n 0, 1) := by decide +kernel
theorem d3_10 : decode prog_43_method_1_code 10 = .ok (.aload_n 2, 1) := by decide +kernel
theorem d3_11 : decode prog_43_method_1_code 11 = .ok (.putfield 13, 3) := by decide +kernel
theorem d3_14 : decode prog_43_method_1_code 14 = .ok (.aload_n 0, 1) := by decide +kernel
theorem d3_15 : decode prog_43_method_1_code 15 = .ok (.dload_n 3, 1) := by decide +kernel
theorem d3_16 : decode prog_43_method_1_code 16 = .ok (.putfield 16, 3) := by decide +kernel
theorem d3_19 : decode prog_43_method_1_code 19 = .ok (.return_, 1) := by decide +kernel
theorem ef_3 (m : MethodId) (x0 : Addr) (x1 : Addr) (x2 : Addr) (x3 : UInt64) : entryFrame m #[(.ref x0), (.ref x1), (.ref x2), (.double x3)] 5 = mkF m 0 #[.val (.ref x0), .val (.ref x1), .val (.ref x2), .val (.double x3), .second] [] := by first | (simp [entryFrame, mkF, argsToLocals, Value.category]; done) | rfl
set_option maxRecDepth 65536 in
set_option maxHeartbeats 40000000 in
theorem rm3 (l : Launch) (Z : State) (a0 : Array Value) (hw : ∀ d ∈ tables_1, d.before a0 Z = true) (x0 : Addr) (x1 : Addr) (x2 : Addr) (x3 : UInt64) (h0 : Heap) (n0 : Nat) (ga : n0 ≤ x0) (E0 : Exa Z h0 x0 "com/example/footwise/footwise/search/Route") (F_nodes : Fld Z h0 x0 "com/example/footwise/footwise/search/Route" "nodes" "[I" .null) (F_sections : Fld Z h0 x0 "com/example/footwise/footwise/search/Route" "sections" "[I" .null) (F_cost : Fld Z h0 x0 "com/example/footwise/footwise/search/Route" "cost" "D" (.double 0)) :
    Con l Z (⟨"com/example/footwise/footwise/search/Route", "<init>", "([I[ID)V"⟩ : MethodName) prog_43_method_1_code 5 none [] ({ frames := 2, cells := 0, slots := 0, locals := 24 } : Room) #[(.ref x0), (.ref x1), (.ref x2), (.double x3)] h0 (fun v h L => v = none ∧ Fr n0 L ∧ Keep h0 h [x0] ∧ Fld Z h x0 "com/example/footwise/footwise/search/Route" "nodes" "[I" (.ref x1) ∧ Fld Z h x0 "com/example/footwise/footwise/search/Route" "sections" "[I" (.ref x2) ∧ Fld Z h x0 "com/example/footwise/footwise/search/Route" "cost" "D" (.double x3)) := by
  refine Con.of (plainFor_of_name pn_2) ?_
  intro p e s m below meth c s₁ X0 hx hby hml hown hnm hret hlk hZ e0
  refine End.cast ?_ (ef_3 m x0 x1 x2 x3)
  have N0 := Fr.nil n0
  refine k_aloadN X0 hx (q := 1) rfl (hb hby d3_0) rfl rfl ?_
  refine k_callI X0 hx hZ (y := (⟨"java/lang/Record", "<init>", "()V"⟩ : MethodName)) hown rfl (hw _ (List.mem_of_getElem? (i := 17) rfl)) (hw _ (List.mem_of_getElem? (i := 18) rfl)) (hw _ (List.mem_of_getElem? (i := 20) rfl)) (hw _ (List.mem_of_getElem? (i := 21) rfl)) (by decide) 0 e0 (rm4 l Z a0 hw x0 h0 n0) (by decide) (by decide) (by decide) (by decide) (by rw [hml]; rfl) (a := x0) (as := []) (rest := []) pd_0 rfl (by first | exact Nat.le_refl _ | simp [Value.category]) (q := 4) rfl (hb hby d3_1) ?_
  rintro _ T1 L1 X1 ⟨rfl, N1q, e1⟩
  have N1 := Fr.app N0 N1q
  show End _ _ _ _ _ _ _ (T1.setTop (mkF m 4 #[.val (.ref x0), .val (.ref x1), .val (.ref x2), .val (.double x3), .second] []))
  refine k_aloadN X1 hx (q := 5) rfl (hb hby d3_4) rfl rfl ?_
  refine k_aloadN X1 hx (q := 6) rfl (hb hby d3_5) rfl rfl ?_
  refine k_putF X1 hx hZ (host := "") hown (Or.inl (hw _ (List.mem_of_getElem? (i := 25) rfl))) Via.refl e1 (Or.inr ⟨(hw _ (List.mem_of_getElem? (i := 26) rfl)), rfl, hnm⟩) (hw _ (List.mem_of_getElem? (i := 12) rfl)) (ty := (.array .int)) (by decide) rfl rfl (q := 9) rfl (hb hby d3_6) F_nodes E0 ?_
  intro T2 h2 X2 e2 W2
  have K2 := Keep.of_wr W2
  have N2 := Fr.snoc X2 N1 ga
  have Fw2 := (F_nodes).same W2
  refine k_aloadN X2 hx (q := 10) rfl (hb hby d3_9) rfl rfl ?_
  refine k_aloadN X2 hx (q := 11) rfl (hb hby d3_10) rfl rfl ?_
  have G3 := (F_sections.other W2 (Or.inr (slot_ne (t := (.array .int)) (t' := (.array .int)) (Or.inr (hw _ (List.mem_of_getElem? (i := 28) rfl))) (Or.inr (hw _ (List.mem_of_getElem? (i := 26) rfl))) (by decide) (by decide) (by decide))))
  have G4 := (E0.keep K2)
  refine k_putF X2 hx hZ (host := "") hown (Or.inl (hw _ (List.mem_of_getElem? (i := 27) rfl))) Via.refl e2 (Or.inr ⟨(hw _ (List.mem_of_getElem? (i := 28) rfl)), rfl, hnm⟩) (hw _ (List.mem_of_getElem? (i := 12) rfl)) (ty := (.array .int)) (by decide) rfl rfl (q := 14) rfl (hb hby d3_11) G3 G4 ?_
  intro T5 h5 X5 e5 W5
  have K5 := Keep.of_wr W5
  have N5 := Fr.snoc X5 N2 ga
  have Fw5 := (G3).same W5
  refine k_aloadN X5 hx (q := 15) rfl (hb hby d3_14) rfl rfl ?_
  refine k_dloadN X5 hx (q := 16) rfl (hb hby d3_15) rfl ?_
  have G6 := ((F_cost.other W2 (Or.inr (slot_ne (t := .double) (t' := (.array .int)) (Or.inr (hw _ (List.mem_of_getElem? (i := 30) rfl))) (Or.inr (hw _ (List.mem_of_getElem? (i := 26) rfl))) (by decide) (by decide) (by decide)))).other W5 (Or.inr (slot_ne (t := .double) (t' := (.array .int)) (Or.inr (hw _ (List.mem_of_getElem? (i := 30) rfl))) (Or.inr (hw _ (List.mem_of_getElem? (i := 28) rfl))) (by decide) (by decide) (by decide))))
  have G7 := (G4.keep K5)
  refine k_putF X5 hx hZ (host := "") hown (Or.inl (hw _ (List.mem_of_getElem? (i := 29) rfl))) Via.refl e5 (Or.inr ⟨(hw _ (List.mem_of_getElem? (i := 30) rfl)), rfl, hnm⟩) (hw _ (List.mem_of_getElem? (i := 12) rfl)) (ty := .double) (by decide) rfl rfl (q := 19) rfl (hb hby d3_16) G6 G7 ?_
  intro T8 h8 X8 e8 W8
  have K8 := Keep.of_wr W8
  have N8 := Fr.snoc X8 N5 ga
  have Fw8 := (G6).same W8
  have Kp9 : Keep h0 h2 [x0] := Keep.trans (Keep.refl h0 [x0]) K2 (allS (Or.inl (List.mem_of_getElem? (i := 0) rfl)) all0)
  have Kp10 : Keep h0 h5 [x0] := Keep.trans Kp9 K5 (allS (Or.inl (List.mem_of_getElem? (i := 0) rfl)) all0)
  have Kp11 : Keep h0 h8 [x0] := Keep.trans Kp10 K8 (allS (Or.inl (List.mem_of_getElem? (i := 0) rfl)) all0)
  have G12 := ((Fw2.other W5 (Or.inr (slot_ne (t := (.array .int)) (t' := (.array .int)) (Or.inr (hw _ (List.mem_of_getElem? (i := 26) rfl))) (Or.inr (hw _ (List.mem_of_getElem? (i := 28) rfl))) (by decide) (by decide) (by decide)))).other W8 (Or.inr (slot_ne (t := (.array .int)) (t' := .double) (Or.inr (hw _ (List.mem_of_getElem? (i := 26) rfl))) (Or.inr (hw _ (List.mem_of_getElem? (i := 30) rfl))) (by decide) (by decide) (by decide))))
  have G13 := (Fw5.other W8 (Or.inr (slot_ne (t := (.array .int)) (t' := .double) (Or.inr (hw _ (List.mem_of_getElem? (i := 28) rfl))) (Or.inr (hw _ (List.mem_of_getElem? (i := 30) rfl))) (by decide) (by decide) (by decide))))
  exact k_retV X8 hx hlk (by decide) (by decide) hret (hb hby d3_19) ⟨rfl, N8, by rw [e8]; exact Kp11, by rw [e8]; exact G12, by rw [e8]; exact G13, by rw [e8]; exact Fw8⟩
theorem d8_0 : decode prog_43_method_8_code 0 = .ok (.aload_n 0, 1) := by decide +kernel
theorem d8_1 : decode prog_43_method_8_code 1 = .ok (.getfield 13, 3) := by decide +kernel
theorem d8_4 : decode prog_43_method_8_code 4 = .ok (.areturn, 1) := by decide +kernel
theorem ef_8 (m : MethodId) (x0 : Addr) : entryFrame m #[(.ref x0)] 1 = mkF m 0 #[.val (.ref x0)] [] := by first | (simp [entryFrame, mkF, argsToLocals, Value.category]; done) | rfl
set_option maxRecDepth 65536 in
set_option maxHeartbeats 40000000 in
theorem rm8 (l : Launch) (Z : State) (a0 : Array Value) (hw : ∀ d ∈ tables_1, d.before a0 Z = true) (x0 : Addr) (h0 : Heap) (n0 : Nat) (y : Addr) (F0 : Fld Z h0 x0 "com/example/footwise/footwise/search/Route" "sections" "[I" (.ref y)) :
    Con l Z (⟨"com/example/footwise/footwise/search/Route", "sections", "()[I"⟩ : MethodName) prog_43_method_8_code 1 (some (.array .int)) [] ({ frames := 0, cells := 0, slots := 0, locals := 0 } : Room) #[(.ref x0)] h0 (fun v h L => v = some (.ref y) ∧ Fr n0 L ∧ h = h0) := by
  refine Con.of (plainFor_of_name pn_2) ?_
  intro p e s m below meth c s₁ X0 hx hby hml hown hnm hret hlk hZ e0
  refine End.cast ?_ (ef_8 m x0)
  have N0 := Fr.nil n0
  refine k_aloadN X0 hx (q := 1) rfl (hb hby d8_0) rfl rfl ?_
  refine k_getF X0 hx hZ (host := "") hown (Or.inl (hw _ (List.mem_of_getElem? (i := 27) rfl))) Via.refl e0 (q := 4) rfl (hb hby d8_1) F0 ?_
  intro T1 X1 e1
  exact k_retA X1 hx hlk (by decide) (by decide) hret rfl rfl (hb hby d8_4) ⟨rfl, N0, e1⟩
theorem d7_0 : decode prog_1_method_5_code 0 = .ok (.aload_n 0, 1) := by decide +kernel
theorem d7_1 : decode prog_1_method_5_code 1 = .ok (.invokevirtual 127, 3) := by decide +kernel
theorem d7_4 : decode prog_1_method_5_code 4 = .ok (.astore_n 2, 1) := by decide +kernel
theorem d7_5 : decode prog_1_method_5_code 5 = .ok (.aload_n 2, 1) := by decide +kernel
theorem d7_6 : decode prog_1_method_5_code 6 = .ok (.arraylength, 1) := by decide +kernel
theorem d7_7 : decode prog_1_method_5_code 7 = .ok (.istore_n 3, 1) := by decide +kernel
theorem d7_8 : decode prog_1_method_5_code 8 = .ok (.iconst 0, 1) := by decide +kernel
theorem d7_9 : decode prog_1_method_5_code 9 = .ok (.istore 4, 2) := by decide +kernel
theorem d7_11 : decode prog_1_method_5_code 11 = .ok (.iload 4, 2) := by decide +kernel
theorem d7_13 : decode prog_1_method_5_code 13 = .ok (.iload_n 3, 1) := by decide +kernel
theorem d7_14 : decode prog_1_method_5_code 14 = .ok (.if_icmp .ge 28, 3) := by decide +kernel
theorem d7_17 : decode prog_1_method_5_code 17 = .ok (.aload_n 2, 1) := by decide +kernel
theorem d7_18 : decode prog_1_method_5_code 18 = .ok (.iload 4, 2) := by decide +kernel
theorem d7_20 : decode prog_1_method_5_code 20 = .ok (.iaload, 1) := by decide +kernel
theorem d7_21 : decode prog_1_method_5_code 21 = .ok (.istore 5, 2) := by decide +kernel
theorem d7_23 : decode prog_1_method_5_code 23 = .ok (.aload_n 1, 1) := by decide +kernel
theorem d7_24 : decode prog_1_method_5_code 24 = .ok (.iload 5, 2) := by decide +kernel
theorem d7_26 : decode prog_1_method_5_code 26 = .ok (.daload, 1) := by decide +kernel
theorem d7_27 : decode prog_1_method_5_code 27 = .ok (.ldc2_w 133, 3) := by decide +kernel
theorem d7_30 : decode prog_1_method_5_code 30 = .ok (.dcmp .l, 1) := by decide +kernel
theorem d7_31 : decode prog_1_method_5_code 31 = .ok (.ifCond .ne 5, 3) := by decide +kernel
theorem d7_34 : decode prog_1_method_5_code 34 = .ok (.iconst 1, 1) := by decide +kernel
theorem d7_35 : decode prog_1_method_5_code 35 = .ok (.ireturn, 1) := by decide +kernel
theorem d7_36 : decode prog_1_method_5_code 36 = .ok (.iinc 4 1, 3) := by decide +kernel
theorem d7_39 : decode prog_1_method_5_code 39 = .ok (.goto (-28), 3) := by decide +kernel
theorem d7_42 : decode prog_1_method_5_code 42 = .ok (.iconst 0, 1) := by decide +kernel
theorem d7_43 : decode prog_1_method_5_code 43 = .ok (.ireturn, 1) := by decide +kernel
theorem ef_7 (m : MethodId) (x0 : Addr) (x1 : Addr) : entryFrame m #[(.ref x0), (.ref x1)] 6 = mkF m 0 #[.val (.ref x0), .val (.ref x1), .unset, .unset, .unset, .unset] [] := by first | (simp [entryFrame, mkF, argsToLocals, Value.category]; done) | rfl
set_option maxRecDepth 65536 in
set_option maxHeartbeats 40000000 in
theorem rm7 (l : Launch) (Z : State) (a0 : Array Value) (hw : ∀ d ∈ tables_1, d.before a0 Z = true) (x0 : Addr) (x1 : Addr) (h0 : Heap) (n0 : Nat) (E0 : Exa Z h0 x0 "com/example/footwise/footwise/search/Route") (sa : Addr) (F0 : Fld Z h0 x0 "com/example/footwise/footwise/search/Route" "sections" "[I" (.ref sa)) (k : Nat) (hk5 : k ≤ 5) (sc : Nat → Int32) (si : Nat → Nat) (hsc : ∀ t, t < k → Ix (sc t) (si t) ∧ si t < 4) (cf : Nat → UInt64) (hcf : ∀ t, t < 4 → Jvm.Free.Fl.Fin64 (cf t) ∨ cf t = (9218868437227405312 : UInt64)) (VS : Ary Z h0 sa .int k (fun t => .int (sc t))) (VC : Ary Z h0 x1 .double 4 (fun t => .double (cf t))) :
    Con l Z (⟨"com/example/footwise/footwise/bench/Bench", "usesImpassable", "(Lcom/example/footwise/footwise/search/Route;[D)Z"⟩ : MethodName) prog_1_method_5_code 6 (some .boolean) [] ({ frames := 1, cells := 0, slots := 0, locals := 12 } : Room) #[(.ref x0), (.ref x1)] h0 (fun v h L => ∃ r : Int32, v = some (.int r) ∧ Fr n0 L ∧ h = h0 ∧ ((r = 1 ∧ ∃ t, t < k ∧ cf (si t) = (9218868437227405312 : UInt64)) ∨ (r = 0 ∧ ∀ t, t < k → ¬ cf (si t) = (9218868437227405312 : UInt64)))) := by
  refine Con.of (plainFor_of_name pn_3) ?_
  intro p e s m below meth c s₁ X0 hx hby hml hown hnm hret hlk hZ e0
  refine End.cast ?_ (ef_7 m x0 x1)
  have N0 := Fr.nil n0
  refine k_aloadN X0 hx (q := 1) rfl (hb hby d7_0) rfl rfl ?_
  refine k_callV X0 hx hZ (y := (⟨"com/example/footwise/footwise/search/Route", "sections", "()[I"⟩ : MethodName)) (z := (⟨"com/example/footwise/footwise/search/Route", "sections", "()[I"⟩ : MethodName)) hown (hw _ (List.mem_of_getElem? (i := 38) rfl)) (hw _ (List.mem_of_getElem? (i := 39) rfl)) (notFace_of_selects (args := #[]) (mvT hZ (hw _ (List.mem_of_getElem? (i := 41) rfl)))) (hw _ (List.mem_of_getElem? (i := 41) rfl)) (hw _ (List.mem_of_getElem? (i := 40) rfl)) (hw _ (List.mem_of_getElem? (i := 42) rfl)) (hw _ (List.mem_of_getElem? (i := 13) rfl)) (by decide) E0 0 e0 (rm8 l Z a0 hw x0 h0 n0 sa F0) (by decide) (by decide) (by decide) (by decide) (by rw [hml]; rfl) (a := x0) (as := []) (rest := []) pd_1 rfl (by first | exact Nat.le_refl _ | simp [Value.category]) (q := 4) rfl (hb hby d7_1) ?_
  rintro _ T1 L1 X1 ⟨rfl, N1q, e1⟩
  have N1 := Fr.app N0 N1q
  show End _ _ _ _ _ _ _ (T1.setTop (mkF m 4 #[.val (.ref x0), .val (.ref x1), .unset, .unset, .unset, .unset] [(.ref sa)]))
  refine k_astoreN X1 hx (L' := #[.val (.ref x0), .val (.ref x1), .val (.ref sa), .unset, .unset, .unset]) (q := 5) rfl (hb hby d7_4) rfl rfl ?_
  refine k_aloadN X1 hx (q := 6) rfl (hb hby d7_5) rfl rfl ?_
  refine k_al X1 hx hZ e1 (z := k.toInt32) (q := 7) rfl (hb hby d7_6) VS rfl ?_
  have hlen := own_nat (k := k) (Nat.lt_of_le_of_lt hk5 (by decide))
  refine k_istoreN X1 hx (L' := #[.val (.ref x0), .val (.ref x1), .val (.ref sa), .val (.int k.toInt32), .unset, .unset]) (q := 8) rfl (hb hby d7_7) rfl ?_
  generalize hl : k.toInt32 = len
  rw [hl] at hlen
  have loop : ∀ (d i : Nat) (i' : Int32) (u : Slot), k - i < d → Ix i' i → i ≤ k → (∀ t, t < i → ¬ cf (si t) = (9218868437227405312 : UInt64)) → One u → End p e below s (fun v h L => ∃ r : Int32, v = some (.int r) ∧ Fr n0 L ∧ h = h0 ∧ ((r = 1 ∧ ∃ t, t < k ∧ cf (si t) = (9218868437227405312 : UInt64)) ∨ (r = 0 ∧ ∀ t, t < k → ¬ cf (si t) = (9218868437227405312 : UInt64)))) 0 0 (T1.setTop (mkF m 11 #[.val (.ref x0), .val (.ref x1), .val (.ref sa), .val (.int len), .val (.int i'), u] [])) := by
    intro d
    induction d with
    | zero => intro i i' u h; omega
    | succ d ih =>
      intro i i' u hd hi hle hno hu
      refine k_iload X1 hx (q := 13) rfl (hb hby d7_11) rfl ?_
      refine k_iloadN X1 hx (q := 14) rfl (hb hby d7_13) rfl ?_
      refine k_icmp_ge X1 hx (q1 := 42) (q := 17) (by decide) (by decide) rfl (hb hby d7_14) (fun hc2 => ?_) (fun hc2 => ?_)
      · have hik : i = k := by
          have := mt (own_lt hi hlen).mpr hc2; omega
        refine k_iconst X1 hx (v := (0 : Int32)) rfl (q := 43) rfl (hb hby d7_42) ?_
        exact k_retN X1 hx (t := .boolean) hlk (by decide) (by decide) hret (by simp) (hb hby d7_43) ⟨0, rfl, N1, e1, Or.inr ⟨rfl, fun t ht => hno t (by omega)⟩⟩
      · have hik := (own_lt hi hlen).mp hc2
        refine k_aloadN X1 hx (q := 18) rfl (hb hby d7_17) rfl rfl ?_
        refine k_iload X1 hx (q := 20) rfl (hb hby d7_18) rfl ?_
        refine k_arI X1 hx hZ e1 (x := (.int (sc i))) i (q := 21) rfl (hb hby d7_20) VS hi hik rfl ?_
        refine k_istore X1 hx (L' := #[.val (.ref x0), .val (.ref x1), .val (.ref sa), .val (.int len), .val (.int i'), .val (.int (sc i))]) (q := 23) rfl (hb hby d7_21) (os7_21_0 hu) ?_
        refine k_aloadN X1 hx (q := 24) rfl (hb hby d7_23) rfl rfl ?_
        refine k_iload X1 hx (q := 26) rfl (hb hby d7_24) rfl ?_
        refine k_arD X1 hx hZ e1 (x := (.double (cf (si i)))) (si i) (q := 27) rfl (hb hby d7_26) VC (hsc i hik).1 (hsc i hik).2 rfl ?_
        refine k_ldc2D X1 hx hZ (v := (9218868437227405312 : UInt64)) hown (hw _ (List.mem_of_getElem? (i := 43) rfl)) (q := 30) rfl (hb hby d7_27) ?_
        rcases hcf (si i) (hsc i hik).2 with hfin | hinf
        · have hne : ¬ cf (si i) = (9218868437227405312 : UInt64) := fun q => by rw [q] at hfin; exact absurd hfin (by decide)
          refine k_dcmp X1 hx (q := 31) rfl (hb hby d7_30) (v := -1) (Jvm.RoadKit.dcmp_pinf hfin _) ?_
          refine k_if_ne X1 hx (q1 := 36) (q := 34) (by decide) (by decide) rfl (hb hby d7_31) (fun _ => ?_) (fun hc => absurd hc (by decide))
          refine k_iinc X1 hx (L' := #[.val (.ref x0), .val (.ref x1), .val (.ref sa), .val (.int len), .val (.int (i' + (1 : Int32))), .val (.int (sc i))]) (q := 39) rfl (hb hby d7_36) rfl rfl ?_
          refine k_goto X1 hx (q := 11) (by decide) (by decide) (hb hby d7_39) ?_
          exact ih (i + 1) _ _ (by omega) (own_up hi (by omega)) (by omega) (fun t ht => by
            by_cases q : t = i
            · subst q; exact hne
            · exact hno t (by omega)) (One.val rfl)
        · refine k_dcmp X1 hx (q := 31) rfl (hb hby d7_30) (v := 0) (by rw [hinf]; decide) ?_
          refine k_if_ne X1 hx (q1 := 36) (q := 34) (by decide) (by decide) rfl (hb hby d7_31) (fun hc => absurd rfl hc) (fun _ => ?_)
          refine k_iconst X1 hx (v := (1 : Int32)) rfl (q := 35) rfl (hb hby d7_34) ?_
          exact k_retN X1 hx (t := .boolean) hlk (by decide) (by decide) hret (by simp) (hb hby d7_35) ⟨1, rfl, N1, e1, Or.inl ⟨rfl, i, hik, hinf⟩⟩
  refine k_iconst X1 hx (v := (0 : Int32)) rfl (q := 9) rfl (hb hby d7_8) ?_
  refine k_istore X1 hx (L' := #[.val (.ref x0), .val (.ref x1), .val (.ref sa), .val (.int len), .val (.int (0 : Int32)), .unset]) (q := 11) rfl (hb hby d7_9) rfl ?_
  exact loop (k + 1) 0 _ _ (by omega) ⟨by decide, by decide⟩ (by omega) (fun t ht => by omega) One.u
def own_cd (x : Int32) : Nat → Int32 := fun t => if t = 0 then (x &&& (3 : Int32)) else if t = 1 then (((x.toUInt32 >>> ((2 : Int32) &&& 31).toUInt32).toInt32) &&& (3 : Int32)) else if t = 2 then (((x.toUInt32 >>> ((4 : Int32) &&& 31).toUInt32).toInt32) &&& (3 : Int32)) else (((x.toUInt32 >>> ((6 : Int32) &&& 31).toUInt32).toInt32) &&& (3 : Int32))
theorem own_code (x : Int32) {s : Int32} {t : Nat} (h : Ix s t) (ht : t < 4) : f6 x s = own_cd x t := by
  have e : s = Int32.ofInt s.toInt := (Int32.ofInt_toInt s).symm
  rw [h.int] at e
  have : t = 0 ∨ t = 1 ∨ t = 2 ∨ t = 3 := by omega
  rcases this with rfl | rfl | rfl | rfl <;> subst e
  · have : f6 x (Int32.ofInt ((0 : Nat) : Int)) = (((x.toUInt32 >>> (((2 : Int32) * Int32.ofInt ((0 : Nat) : Int)) &&& 31).toUInt32).toInt32) &&& 3) := rfl
    rw [this]
    have z : (((2 : Int32) * Int32.ofInt ((0 : Nat) : Int)) &&& 31).toUInt32 = 0 := by decide
    rw [z]
    have y : (x.toUInt32 >>> (0 : UInt32)).toInt32 = x := by simp
    rw [y]; rfl
  · rfl
  · rfl
  · rfl
theorem own_mask3 (x : Int32) : ∃ t, t < 4 ∧ Ix (x &&& (3 : Int32)) t := by
  have e := c_mask x 3 2 (by decide) (by decide)
  have : ((2 ^ 2 : Nat) : Int) = 4 := by decide
  rw [this] at e
  refine ⟨(x &&& (3 : Int32)).toInt.toNat, ?_, Ix.of ?_⟩ <;> omega
theorem own_n (x : Int32) : ∃ k, k ≤ 4 ∧ Ix ((x &&& (7 : Int32)) % (5 : Int32)) k := by
  have e := c_mask x 7 3 (by decide) (by decide)
  have p : (0 : Int) ≤ (x &&& (7 : Int32)).toInt := by rw [e]; exact Int.emod_nonneg _ (by decide)
  have r := (c_irem (x &&& (7 : Int32)) 5 5 (by decide)).1 p
  refine ⟨((x &&& (7 : Int32)) % (5 : Int32)).toInt.toNat, ?_, Ix.of ?_⟩ <;> omega
theorem own_cost {c : Int32} {fin : UInt64} (hf : Jvm.Free.Fl.Fin64 fin) : (Jvm.Free.Fl.Fin64 (f1 c (9218868437227405312 : UInt64) fin) ∨ f1 c (9218868437227405312 : UInt64) fin = (9218868437227405312 : UInt64)) ∧ (f1 c (9218868437227405312 : UInt64) fin = (9218868437227405312 : UInt64) ↔ c = 2) := by
  have nf : ¬ fin = (9218868437227405312 : UInt64) := fun q => by rw [q] at hf; exact absurd hf (by decide)
  unfold f1
  by_cases h0 : c = 0
  · subst h0; rw [if_pos rfl]; exact ⟨Or.inl (by decide), fun q => absurd q (by decide), fun q => absurd q (by decide)⟩
  by_cases h1 : c = 1
  · subst h1; rw [if_neg (by decide), if_pos rfl]; exact ⟨Or.inl hf, fun q => absurd q nf, fun q => absurd q (by decide)⟩
  by_cases h2 : c = 2
  · subst h2; rw [if_neg (by decide), if_neg (by decide), if_pos rfl]; exact ⟨Or.inr rfl, fun _ => rfl, fun _ => rfl⟩
  · rw [if_neg h0, if_neg h1, if_neg h2]; exact ⟨Or.inl (by decide), fun q => absurd q (by decide), fun q => absurd q h2⟩
theorem ef_0 (m : MethodId) (x0 : Int32) (x1 : Int32) (x2 : Int32) : entryFrame m #[(.int x0), (.int x1), (.int x2)] maxLocals = mkF m 0 #[.val (.int x0), .val (.int x1), .val (.int x2), .unset, .unset, .unset, .unset, .unset, .unset, .unset, .unset, .unset, .unset, .unset, .unset, .unset, .unset, .unset, .unset, .unset, .unset] [] := by first | (simp [entryFrame, mkF, argsToLocals, Value.category, maxLocals]; done) | rfl
set_option maxRecDepth 65536 in
set_option maxHeartbeats 40000000 in
theorem rmL (l : Launch) (Z : State) (a0 : Array Value) (hw : ∀ d ∈ tables_1, d.before a0 Z = true) (x0 : Int32) (x1 : Int32) (x2 : Int32) (h0 : Heap) (n0 : Nat) (Z0 : n0 ≤ h0.size) :
    Con l Z x code maxLocals ret tables_1 room_1 #[(.int x0), (.int x1), (.int x2)] h0 (fun v h L => v = some (.int 1) ∧ Fr n0 L) := by
  refine Con.of (plainFor_of_name pn_0) ?_
  intro p e s m below meth c s₁ X0 hx hby hml hown hnm hret hlk hZ e0
  refine End.cast ?_ (ef_0 m x0 x1 x2)
  have N0 := Fr.nil n0
  refine k_ldc2D X0 hx hZ (v := (9218868437227405312 : UInt64)) hown (hw _ (List.mem_of_getElem? (i := 0) rfl)) (q := 3) rfl (hb hby at_0) ?_
  refine k_dstoreN X0 hx (L' := #[.val (.int x0), .val (.int x1), .val (.int x2), .val (.double (9218868437227405312 : UInt64)), .second, .unset, .unset, .unset, .unset, .unset, .unset, .unset, .unset, .unset, .unset, .unset, .unset, .unset, .unset, .unset, .unset]) (q := 4) rfl (hb hby at_3) rfl ?_
  refine k_iloadN X0 hx (q := 5) rfl (hb hby at_4) rfl ?_
  refine k_ldcI X0 hx hZ (v := (65535 : Int32)) hown (hw _ (List.mem_of_getElem? (i := 1) rfl)) (q := 7) rfl (hb hby at_5) ?_
  refine k_iand X0 hx (q := 8) rfl (hb hby at_7) ?_
  refine k_i2d X0 hx (q := 9) rfl (hb hby at_8) ?_
  refine k_dstore X0 hx (L' := #[.val (.int x0), .val (.int x1), .val (.int x2), .val (.double (9218868437227405312 : UInt64)), .second, .val (.double (FP.i2d (x2 &&& (65535 : Int32)))), .second, .unset, .unset, .unset, .unset, .unset, .unset, .unset, .unset, .unset, .unset, .unset, .unset, .unset, .unset]) (q := 11) rfl (hb hby at_9) rfl ?_
  refine k_iloadN X0 hx (q := 12) rfl (hb hby at_11) rfl ?_
  refine k_iconst X0 hx (v := (3 : Int32)) rfl (q := 13) rfl (hb hby at_12) ?_
  refine k_iand X0 hx (q := 14) rfl (hb hby at_13) ?_
  refine k_istore X0 hx (L' := #[.val (.int x0), .val (.int x1), .val (.int x2), .val (.double (9218868437227405312 : UInt64)), .second, .val (.double (FP.i2d (x2 &&& (65535 : Int32)))), .second, .val (.int (x0 &&& (3 : Int32))), .unset, .unset, .unset, .unset, .unset, .unset, .unset, .unset, .unset, .unset, .unset, .unset, .unset]) (q := 16) rfl (hb hby at_14) rfl ?_
  refine k_iloadN X0 hx (q := 17) rfl (hb hby at_16) rfl ?_
  refine k_iconst X0 hx (v := (2 : Int32)) rfl (q := 18) rfl (hb hby at_17) ?_
  refine k_iushr X0 hx (q := 19) rfl (hb hby at_18) ?_
  refine k_iconst X0 hx (v := (3 : Int32)) rfl (q := 20) rfl (hb hby at_19) ?_
  refine k_iand X0 hx (q := 21) rfl (hb hby at_20) ?_
  refine k_istore X0 hx (L' := #[.val (.int x0), .val (.int x1), .val (.int x2), .val (.double (9218868437227405312 : UInt64)), .second, .val (.double (FP.i2d (x2 &&& (65535 : Int32)))), .second, .val (.int (x0 &&& (3 : Int32))), .val (.int (((x0.toUInt32 >>> ((2 : Int32) &&& 31).toUInt32).toInt32) &&& (3 : Int32))), .unset, .unset, .unset, .unset, .unset, .unset, .unset, .unset, .unset, .unset, .unset, .unset]) (q := 23) rfl (hb hby at_21) rfl ?_
  refine k_iloadN X0 hx (q := 24) rfl (hb hby at_23) rfl ?_
  refine k_iconst X0 hx (v := (4 : Int32)) rfl (q := 25) rfl (hb hby at_24) ?_
  refine k_iushr X0 hx (q := 26) rfl (hb hby at_25) ?_
  refine k_iconst X0 hx (v := (3 : Int32)) rfl (q := 27) rfl (hb hby at_26) ?_
  refine k_iand X0 hx (q := 28) rfl (hb hby at_27) ?_
  refine k_istore X0 hx (L' := #[.val (.int x0), .val (.int x1), .val (.int x2), .val (.double (9218868437227405312 : UInt64)), .second, .val (.double (FP.i2d (x2 &&& (65535 : Int32)))), .second, .val (.int (x0 &&& (3 : Int32))), .val (.int (((x0.toUInt32 >>> ((2 : Int32) &&& 31).toUInt32).toInt32) &&& (3 : Int32))), .val (.int (((x0.toUInt32 >>> ((4 : Int32) &&& 31).toUInt32).toInt32) &&& (3 : Int32))), .unset, .unset, .unset, .unset, .unset, .unset, .unset, .unset, .unset, .unset, .unset]) (q := 30) rfl (hb hby at_28) rfl ?_
  refine k_iloadN X0 hx (q := 31) rfl (hb hby at_30) rfl ?_
  refine k_bipush X0 hx (v := (6 : Int32)) rfl (q := 33) rfl (hb hby at_31) ?_
  refine k_iushr X0 hx (q := 34) rfl (hb hby at_33) ?_
  refine k_iconst X0 hx (v := (3 : Int32)) rfl (q := 35) rfl (hb hby at_34) ?_
  refine k_iand X0 hx (q := 36) rfl (hb hby at_35) ?_
  refine k_istore X0 hx (L' := #[.val (.int x0), .val (.int x1), .val (.int x2), .val (.double (9218868437227405312 : UInt64)), .second, .val (.double (FP.i2d (x2 &&& (65535 : Int32)))), .second, .val (.int (x0 &&& (3 : Int32))), .val (.int (((x0.toUInt32 >>> ((2 : Int32) &&& 31).toUInt32).toInt32) &&& (3 : Int32))), .val (.int (((x0.toUInt32 >>> ((4 : Int32) &&& 31).toUInt32).toInt32) &&& (3 : Int32))), .val (.int (((x0.toUInt32 >>> ((6 : Int32) &&& 31).toUInt32).toInt32) &&& (3 : Int32))), .unset, .unset, .unset, .unset, .unset, .unset, .unset, .unset, .unset, .unset]) (q := 38) rfl (hb hby at_36) rfl ?_
  refine k_iconst X0 hx (v := (4 : Int32)) rfl (q := 39) rfl (hb hby at_38) ?_
  refine k_newP X0 hx hZ (hw _ (List.mem_of_getElem? (i := 2) rfl)) e0 (q := 41) rfl (hb hby at_39) (by decide) (cap := 4) (by decide) (by decide) (by decide) (by decide) ?_
  intro T1 h1 ca k1 X1 e1 g1 E1 A1
  have K1 := Keep.of_ext E1
  have V1 : Ary Z h1 ca .double 4 (fun _ => .double (0 : UInt64)) := Ary.new A1 (by decide) rfl
  refine k_dup X1 hx (q := 42) rfl (hb hby at_41) rfl ?_
  refine k_iconst X1 hx (v := (0 : Int32)) rfl (q := 43) rfl (hb hby at_42) ?_
  refine k_iload X1 hx (q := 45) rfl (hb hby at_43) rfl ?_
  refine k_dloadN X1 hx (q := 46) rfl (hb hby at_45) rfl ?_
  refine k_dload X1 hx (q := 48) rfl (hb hby at_46) rfl ?_
  refine k_callS X1 hx hZ (y := (⟨"com/example/footwise/footwise/bench/BenchUsesImpassablePinLaw", "cost", "(IDD)D"⟩ : MethodName)) hown (hw _ (List.mem_of_getElem? (i := 3) rfl)) (hw _ (List.mem_of_getElem? (i := 4) rfl)) (hw _ (List.mem_of_getElem? (i := 5) rfl)) (hw _ (List.mem_of_getElem? (i := 6) rfl)) (by decide) 3 e1 (rm1 l Z a0 hw (x0 &&& (3 : Int32)) (9218868437227405312 : UInt64) (FP.i2d (x2 &&& (65535 : Int32))) h1 n0) (by decide) (by decide) (by decide) (by decide) (by rw [hml]; rfl) (as := [(.int (x0 &&& (3 : Int32))), (.double (9218868437227405312 : UInt64)), (.double (FP.i2d (x2 &&& (65535 : Int32))))]) (rest := [(.int (0 : Int32)), (.ref ca), (.ref ca)]) pd_2 rfl (by first | exact Nat.le_refl _ | simp [Value.category]) (q := 51) rfl (hb hby at_48) ?_
  rintro _ T2 L2 X2 ⟨rfl, N2q, e2⟩
  have N2 := Fr.app N0 N2q
  show End _ _ _ _ _ _ _ (T2.setTop (mkF m 51 #[.val (.int x0), .val (.int x1), .val (.int x2), .val (.double (9218868437227405312 : UInt64)), .second, .val (.double (FP.i2d (x2 &&& (65535 : Int32)))), .second, .val (.int (x0 &&& (3 : Int32))), .val (.int (((x0.toUInt32 >>> ((2 : Int32) &&& 31).toUInt32).toInt32) &&& (3 : Int32))), .val (.int (((x0.toUInt32 >>> ((4 : Int32) &&& 31).toUInt32).toInt32) &&& (3 : Int32))), .val (.int (((x0.toUInt32 >>> ((6 : Int32) &&& 31).toUInt32).toInt32) &&& (3 : Int32))), .unset, .unset, .unset, .unset, .unset, .unset, .unset, .unset, .unset, .unset] [(.double (f1 (x0 &&& (3 : Int32)) (9218868437227405312 : UInt64) (FP.i2d (x2 &&& (65535 : Int32))))), (.int (0 : Int32)), (.ref ca), (.ref ca)]))
  have ge_ca : n0 ≤ ca := Nat.le_trans Z0 (Nat.le_of_eq g1.symm)
  refine k_asD X2 hx hZ e2 0 (q := 52) rfl (hb hby at_51) V1 ⟨by decide, by decide⟩ (by decide) ?_
  intro T3 h3 X3 e3 W3 V3
  have K3 := Keep.of_wr W3
  have N3 := Fr.snoc X3 N2 ge_ca
  refine k_dup X3 hx (q := 53) rfl (hb hby at_52) rfl ?_
  refine k_iconst X3 hx (v := (1 : Int32)) rfl (q := 54) rfl (hb hby at_53) ?_
  refine k_iload X3 hx (q := 56) rfl (hb hby at_54) rfl ?_
  refine k_dloadN X3 hx (q := 57) rfl (hb hby at_56) rfl ?_
  refine k_dload X3 hx (q := 59) rfl (hb hby at_57) rfl ?_
  refine k_callS X3 hx hZ (y := (⟨"com/example/footwise/footwise/bench/BenchUsesImpassablePinLaw", "cost", "(IDD)D"⟩ : MethodName)) hown (hw _ (List.mem_of_getElem? (i := 3) rfl)) (hw _ (List.mem_of_getElem? (i := 4) rfl)) (hw _ (List.mem_of_getElem? (i := 5) rfl)) (hw _ (List.mem_of_getElem? (i := 6) rfl)) (by decide) 3 e3 (rm1 l Z a0 hw (((x0.toUInt32 >>> ((2 : Int32) &&& 31).toUInt32).toInt32) &&& (3 : Int32)) (9218868437227405312 : UInt64) (FP.i2d (x2 &&& (65535 : Int32))) h3 n0) (by decide) (by decide) (by decide) (by decide) (by rw [hml]; rfl) (as := [(.int (((x0.toUInt32 >>> ((2 : Int32) &&& 31).toUInt32).toInt32) &&& (3 : Int32))), (.double (9218868437227405312 : UInt64)), (.double (FP.i2d (x2 &&& (65535 : Int32))))]) (rest := [(.int (1 : Int32)), (.ref ca), (.ref ca)]) pd_2 rfl (by first | exact Nat.le_refl _ | simp [Value.category]) (q := 62) rfl (hb hby at_59) ?_
  rintro _ T4 L4 X4 ⟨rfl, N4q, e4⟩
  have N4 := Fr.app N3 N4q
  show End _ _ _ _ _ _ _ (T4.setTop (mkF m 62 #[.val (.int x0), .val (.int x1), .val (.int x2), .val (.double (9218868437227405312 : UInt64)), .second, .val (.double (FP.i2d (x2 &&& (65535 : Int32)))), .second, .val (.int (x0 &&& (3 : Int32))), .val (.int (((x0.toUInt32 >>> ((2 : Int32) &&& 31).toUInt32).toInt32) &&& (3 : Int32))), .val (.int (((x0.toUInt32 >>> ((4 : Int32) &&& 31).toUInt32).toInt32) &&& (3 : Int32))), .val (.int (((x0.toUInt32 >>> ((6 : Int32) &&& 31).toUInt32).toInt32) &&& (3 : Int32))), .unset, .unset, .unset, .unset, .unset, .unset, .unset, .unset, .unset, .unset] [(.double (f1 (((x0.toUInt32 >>> ((2 : Int32) &&& 31).toUInt32).toInt32) &&& (3 : Int32)) (9218868437227405312 : UInt64) (FP.i2d (x2 &&& (65535 : Int32))))), (.int (1 : Int32)), (.ref ca), (.ref ca)]))
  refine k_asD X4 hx hZ e4 1 (q := 63) rfl (hb hby at_62) V3 ⟨by decide, by decide⟩ (by decide) ?_
  intro T5 h5 X5 e5 W5 V5
  have K5 := Keep.of_wr W5
  have N5 := Fr.snoc X5 N4 ge_ca
  refine k_dup X5 hx (q := 64) rfl (hb hby at_63) rfl ?_
  refine k_iconst X5 hx (v := (2 : Int32)) rfl (q := 65) rfl (hb hby at_64) ?_
  refine k_iload X5 hx (q := 67) rfl (hb hby at_65) rfl ?_
  refine k_dloadN X5 hx (q := 68) rfl (hb hby at_67) rfl ?_
  refine k_dload X5 hx (q := 70) rfl (hb hby at_68) rfl ?_
  refine k_callS X5 hx hZ (y := (⟨"com/example/footwise/footwise/bench/BenchUsesImpassablePinLaw", "cost", "(IDD)D"⟩ : MethodName)) hown (hw _ (List.mem_of_getElem? (i := 3) rfl)) (hw _ (List.mem_of_getElem? (i := 4) rfl)) (hw _ (List.mem_of_getElem? (i := 5) rfl)) (hw _ (List.mem_of_getElem? (i := 6) rfl)) (by decide) 3 e5 (rm1 l Z a0 hw (((x0.toUInt32 >>> ((4 : Int32) &&& 31).toUInt32).toInt32) &&& (3 : Int32)) (9218868437227405312 : UInt64) (FP.i2d (x2 &&& (65535 : Int32))) h5 n0) (by decide) (by decide) (by decide) (by decide) (by rw [hml]; rfl) (as := [(.int (((x0.toUInt32 >>> ((4 : Int32) &&& 31).toUInt32).toInt32) &&& (3 : Int32))), (.double (9218868437227405312 : UInt64)), (.double (FP.i2d (x2 &&& (65535 : Int32))))]) (rest := [(.int (2 : Int32)), (.ref ca), (.ref ca)]) pd_2 rfl (by first | exact Nat.le_refl _ | simp [Value.category]) (q := 73) rfl (hb hby at_70) ?_
  rintro _ T6 L6 X6 ⟨rfl, N6q, e6⟩
  have N6 := Fr.app N5 N6q
  show End _ _ _ _ _ _ _ (T6.setTop (mkF m 73 #[.val (.int x0), .val (.int x1), .val (.int x2), .val (.double (9218868437227405312 : UInt64)), .second, .val (.double (FP.i2d (x2 &&& (65535 : Int32)))), .second, .val (.int (x0 &&& (3 : Int32))), .val (.int (((x0.toUInt32 >>> ((2 : Int32) &&& 31).toUInt32).toInt32) &&& (3 : Int32))), .val (.int (((x0.toUInt32 >>> ((4 : Int32) &&& 31).toUInt32).toInt32) &&& (3 : Int32))), .val (.int (((x0.toUInt32 >>> ((6 : Int32) &&& 31).toUInt32).toInt32) &&& (3 : Int32))), .unset, .unset, .unset, .unset, .unset, .unset, .unset, .unset, .unset, .unset] [(.double (f1 (((x0.toUInt32 >>> ((4 : Int32) &&& 31).toUInt32).toInt32) &&& (3 : Int32)) (9218868437227405312 : UInt64) (FP.i2d (x2 &&& (65535 : Int32))))), (.int (2 : Int32)), (.ref ca), (.ref ca)]))
  refine k_asD X6 hx hZ e6 2 (q := 74) rfl (hb hby at_73) V5 ⟨by decide, by decide⟩ (by decide) ?_
  intro T7 h7 X7 e7 W7 V7
  have K7 := Keep.of_wr W7
  have N7 := Fr.snoc X7 N6 ge_ca
  refine k_dup X7 hx (q := 75) rfl (hb hby at_74) rfl ?_
  refine k_iconst X7 hx (v := (3 : Int32)) rfl (q := 76) rfl (hb hby at_75) ?_
  refine k_iload X7 hx (q := 78) rfl (hb hby at_76) rfl ?_
  refine k_dloadN X7 hx (q := 79) rfl (hb hby at_78) rfl ?_
  refine k_dload X7 hx (q := 81) rfl (hb hby at_79) rfl ?_
  refine k_callS X7 hx hZ (y := (⟨"com/example/footwise/footwise/bench/BenchUsesImpassablePinLaw", "cost", "(IDD)D"⟩ : MethodName)) hown (hw _ (List.mem_of_getElem? (i := 3) rfl)) (hw _ (List.mem_of_getElem? (i := 4) rfl)) (hw _ (List.mem_of_getElem? (i := 5) rfl)) (hw _ (List.mem_of_getElem? (i := 6) rfl)) (by decide) 3 e7 (rm1 l Z a0 hw (((x0.toUInt32 >>> ((6 : Int32) &&& 31).toUInt32).toInt32) &&& (3 : Int32)) (9218868437227405312 : UInt64) (FP.i2d (x2 &&& (65535 : Int32))) h7 n0) (by decide) (by decide) (by decide) (by decide) (by rw [hml]; rfl) (as := [(.int (((x0.toUInt32 >>> ((6 : Int32) &&& 31).toUInt32).toInt32) &&& (3 : Int32))), (.double (9218868437227405312 : UInt64)), (.double (FP.i2d (x2 &&& (65535 : Int32))))]) (rest := [(.int (3 : Int32)), (.ref ca), (.ref ca)]) pd_2 rfl (by first | exact Nat.le_refl _ | simp [Value.category]) (q := 84) rfl (hb hby at_81) ?_
  rintro _ T8 L8 X8 ⟨rfl, N8q, e8⟩
  have N8 := Fr.app N7 N8q
  show End _ _ _ _ _ _ _ (T8.setTop (mkF m 84 #[.val (.int x0), .val (.int x1), .val (.int x2), .val (.double (9218868437227405312 : UInt64)), .second, .val (.double (FP.i2d (x2 &&& (65535 : Int32)))), .second, .val (.int (x0 &&& (3 : Int32))), .val (.int (((x0.toUInt32 >>> ((2 : Int32) &&& 31).toUInt32).toInt32) &&& (3 : Int32))), .val (.int (((x0.toUInt32 >>> ((4 : Int32) &&& 31).toUInt32).toInt32) &&& (3 : Int32))), .val (.int (((x0.toUInt32 >>> ((6 : Int32) &&& 31).toUInt32).toInt32) &&& (3 : Int32))), .unset, .unset, .unset, .unset, .unset, .unset, .unset, .unset, .unset, .unset] [(.double (f1 (((x0.toUInt32 >>> ((6 : Int32) &&& 31).toUInt32).toInt32) &&& (3 : Int32)) (9218868437227405312 : UInt64) (FP.i2d (x2 &&& (65535 : Int32))))), (.int (3 : Int32)), (.ref ca), (.ref ca)]))
  refine k_asD X8 hx hZ e8 3 (q := 85) rfl (hb hby at_84) V7 ⟨by decide, by decide⟩ (by decide) ?_
  intro T9 h9 X9 e9 W9 V9
  have K9 := Keep.of_wr W9
  have N9 := Fr.snoc X9 N8 ge_ca
  have Vc : Ary Z h9 ca .double 4 (fun t => .double (f1 (own_cd x0 t) (9218868437227405312 : UInt64) (FP.i2d (x2 &&& (65535 : Int32))))) := V9.congr fun t ht => by
    have : t = 0 ∨ t = 1 ∨ t = 2 ∨ t = 3 := by omega
    rcases this with rfl | rfl | rfl | rfl <;> rfl
  obtain ⟨k, hk4, hk⟩ := own_n x1
  refine k_astore X9 hx (L' := #[.val (.int x0), .val (.int x1), .val (.int x2), .val (.double (9218868437227405312 : UInt64)), .second, .val (.double (FP.i2d (x2 &&& (65535 : Int32)))), .second, .val (.int (x0 &&& (3 : Int32))), .val (.int (((x0.toUInt32 >>> ((2 : Int32) &&& 31).toUInt32).toInt32) &&& (3 : Int32))), .val (.int (((x0.toUInt32 >>> ((4 : Int32) &&& 31).toUInt32).toInt32) &&& (3 : Int32))), .val (.int (((x0.toUInt32 >>> ((6 : Int32) &&& 31).toUInt32).toInt32) &&& (3 : Int32))), .val (.ref ca), .unset, .unset, .unset, .unset, .unset, .unset, .unset, .unset, .unset]) (q := 87) rfl (hb hby at_85) rfl rfl ?_
  refine k_iloadN X9 hx (q := 88) rfl (hb hby at_87) rfl ?_
  refine k_bipush X9 hx (v := (7 : Int32)) rfl (q := 90) rfl (hb hby at_88) ?_
  refine k_iand X9 hx (q := 91) rfl (hb hby at_90) ?_
  refine k_iconst X9 hx (v := (5 : Int32)) rfl (q := 92) rfl (hb hby at_91) ?_
  refine k_irem X9 hx (q := 93) rfl (hb hby at_92) (by decide) ?_
  refine k_istore X9 hx (L' := #[.val (.int x0), .val (.int x1), .val (.int x2), .val (.double (9218868437227405312 : UInt64)), .second, .val (.double (FP.i2d (x2 &&& (65535 : Int32)))), .second, .val (.int (x0 &&& (3 : Int32))), .val (.int (((x0.toUInt32 >>> ((2 : Int32) &&& 31).toUInt32).toInt32) &&& (3 : Int32))), .val (.int (((x0.toUInt32 >>> ((4 : Int32) &&& 31).toUInt32).toInt32) &&& (3 : Int32))), .val (.int (((x0.toUInt32 >>> ((6 : Int32) &&& 31).toUInt32).toInt32) &&& (3 : Int32))), .val (.ref ca), .val (.int ((x1 &&& (7 : Int32)) % (5 : Int32))), .unset, .unset, .unset, .unset, .unset, .unset, .unset, .unset]) (q := 95) rfl (hb hby at_93) rfl ?_
  generalize hn : ((x1 &&& (7 : Int32)) % (5 : Int32)) = n
  rw [hn] at hk
  refine k_iloadN X9 hx (q := 96) rfl (hb hby at_95) rfl ?_
  refine k_iconst X9 hx (v := (3 : Int32)) rfl (q := 97) rfl (hb hby at_96) ?_
  refine k_iushr X9 hx (q := 98) rfl (hb hby at_97) ?_
  refine k_iconst X9 hx (v := (3 : Int32)) rfl (q := 99) rfl (hb hby at_98) ?_
  refine k_iand X9 hx (q := 100) rfl (hb hby at_99) ?_
  refine k_istore X9 hx (L' := #[.val (.int x0), .val (.int x1), .val (.int x2), .val (.double (9218868437227405312 : UInt64)), .second, .val (.double (FP.i2d (x2 &&& (65535 : Int32)))), .second, .val (.int (x0 &&& (3 : Int32))), .val (.int (((x0.toUInt32 >>> ((2 : Int32) &&& 31).toUInt32).toInt32) &&& (3 : Int32))), .val (.int (((x0.toUInt32 >>> ((4 : Int32) &&& 31).toUInt32).toInt32) &&& (3 : Int32))), .val (.int (((x0.toUInt32 >>> ((6 : Int32) &&& 31).toUInt32).toInt32) &&& (3 : Int32))), .val (.ref ca), .val (.int n), .val (.int (((x1.toUInt32 >>> ((3 : Int32) &&& 31).toUInt32).toInt32) &&& (3 : Int32))), .unset, .unset, .unset, .unset, .unset, .unset, .unset]) (q := 102) rfl (hb hby at_100) rfl ?_
  obtain ⟨i0, hi04, hi0⟩ := own_mask3 ((x1.toUInt32 >>> ((3 : Int32) &&& 31).toUInt32).toInt32)
  generalize hs0 : (((x1.toUInt32 >>> ((3 : Int32) &&& 31).toUInt32).toInt32) &&& (3 : Int32)) = s0
  rw [hs0] at hi0
  refine k_iloadN X9 hx (q := 103) rfl (hb hby at_102) rfl ?_
  refine k_iconst X9 hx (v := (5 : Int32)) rfl (q := 104) rfl (hb hby at_103) ?_
  refine k_iushr X9 hx (q := 105) rfl (hb hby at_104) ?_
  refine k_iconst X9 hx (v := (3 : Int32)) rfl (q := 106) rfl (hb hby at_105) ?_
  refine k_iand X9 hx (q := 107) rfl (hb hby at_106) ?_
  refine k_istore X9 hx (L' := #[.val (.int x0), .val (.int x1), .val (.int x2), .val (.double (9218868437227405312 : UInt64)), .second, .val (.double (FP.i2d (x2 &&& (65535 : Int32)))), .second, .val (.int (x0 &&& (3 : Int32))), .val (.int (((x0.toUInt32 >>> ((2 : Int32) &&& 31).toUInt32).toInt32) &&& (3 : Int32))), .val (.int (((x0.toUInt32 >>> ((4 : Int32) &&& 31).toUInt32).toInt32) &&& (3 : Int32))), .val (.int (((x0.toUInt32 >>> ((6 : Int32) &&& 31).toUInt32).toInt32) &&& (3 : Int32))), .val (.ref ca), .val (.int n), .val (.int s0), .val (.int (((x1.toUInt32 >>> ((5 : Int32) &&& 31).toUInt32).toInt32) &&& (3 : Int32))), .unset, .unset, .unset, .unset, .unset, .unset]) (q := 109) rfl (hb hby at_107) rfl ?_
  obtain ⟨i1, hi14, hi1⟩ := own_mask3 ((x1.toUInt32 >>> ((5 : Int32) &&& 31).toUInt32).toInt32)
  generalize hs1 : (((x1.toUInt32 >>> ((5 : Int32) &&& 31).toUInt32).toInt32) &&& (3 : Int32)) = s1
  rw [hs1] at hi1
  refine k_iloadN X9 hx (q := 110) rfl (hb hby at_109) rfl ?_
  refine k_bipush X9 hx (v := (7 : Int32)) rfl (q := 112) rfl (hb hby at_110) ?_
  refine k_iushr X9 hx (q := 113) rfl (hb hby at_112) ?_
  refine k_iconst X9 hx (v := (3 : Int32)) rfl (q := 114) rfl (hb hby at_113) ?_
  refine k_iand X9 hx (q := 115) rfl (hb hby at_114) ?_
  refine k_istore X9 hx (L' := #[.val (.int x0), .val (.int x1), .val (.int x2), .val (.double (9218868437227405312 : UInt64)), .second, .val (.double (FP.i2d (x2 &&& (65535 : Int32)))), .second, .val (.int (x0 &&& (3 : Int32))), .val (.int (((x0.toUInt32 >>> ((2 : Int32) &&& 31).toUInt32).toInt32) &&& (3 : Int32))), .val (.int (((x0.toUInt32 >>> ((4 : Int32) &&& 31).toUInt32).toInt32) &&& (3 : Int32))), .val (.int (((x0.toUInt32 >>> ((6 : Int32) &&& 31).toUInt32).toInt32) &&& (3 : Int32))), .val (.ref ca), .val (.int n), .val (.int s0), .val (.int s1), .val (.int (((x1.toUInt32 >>> ((7 : Int32) &&& 31).toUInt32).toInt32) &&& (3 : Int32))), .unset, .unset, .unset, .unset, .unset]) (q := 117) rfl (hb hby at_115) rfl ?_
  obtain ⟨i2, hi24, hi2⟩ := own_mask3 ((x1.toUInt32 >>> ((7 : Int32) &&& 31).toUInt32).toInt32)
  generalize hs2 : (((x1.toUInt32 >>> ((7 : Int32) &&& 31).toUInt32).toInt32) &&& (3 : Int32)) = s2
  rw [hs2] at hi2
  refine k_iloadN X9 hx (q := 118) rfl (hb hby at_117) rfl ?_
  refine k_bipush X9 hx (v := (9 : Int32)) rfl (q := 120) rfl (hb hby at_118) ?_
  refine k_iushr X9 hx (q := 121) rfl (hb hby at_120) ?_
  refine k_iconst X9 hx (v := (3 : Int32)) rfl (q := 122) rfl (hb hby at_121) ?_
  refine k_iand X9 hx (q := 123) rfl (hb hby at_122) ?_
  refine k_istore X9 hx (L' := #[.val (.int x0), .val (.int x1), .val (.int x2), .val (.double (9218868437227405312 : UInt64)), .second, .val (.double (FP.i2d (x2 &&& (65535 : Int32)))), .second, .val (.int (x0 &&& (3 : Int32))), .val (.int (((x0.toUInt32 >>> ((2 : Int32) &&& 31).toUInt32).toInt32) &&& (3 : Int32))), .val (.int (((x0.toUInt32 >>> ((4 : Int32) &&& 31).toUInt32).toInt32) &&& (3 : Int32))), .val (.int (((x0.toUInt32 >>> ((6 : Int32) &&& 31).toUInt32).toInt32) &&& (3 : Int32))), .val (.ref ca), .val (.int n), .val (.int s0), .val (.int s1), .val (.int s2), .val (.int (((x1.toUInt32 >>> ((9 : Int32) &&& 31).toUInt32).toInt32) &&& (3 : Int32))), .unset, .unset, .unset, .unset]) (q := 125) rfl (hb hby at_123) rfl ?_
  obtain ⟨i3, hi34, hi3⟩ := own_mask3 ((x1.toUInt32 >>> ((9 : Int32) &&& 31).toUInt32).toInt32)
  generalize hs3 : (((x1.toUInt32 >>> ((9 : Int32) &&& 31).toUInt32).toInt32) &&& (3 : Int32)) = s3
  rw [hs3] at hi3
  refine k_iload X9 hx (q := 127) rfl (hb hby at_125) rfl ?_
  refine k_iload X9 hx (q := 129) rfl (hb hby at_127) rfl ?_
  refine k_iload X9 hx (q := 131) rfl (hb hby at_129) rfl ?_
  refine k_iload X9 hx (q := 133) rfl (hb hby at_131) rfl ?_
  refine k_iload X9 hx (q := 135) rfl (hb hby at_133) rfl ?_
  refine k_iconst X9 hx (v := (0 : Int32)) rfl (q := 136) rfl (hb hby at_135) ?_
  have Sz14 : n0 ≤ h1.size := Nat.le_trans Z0 K1.1
  have Sz13 : n0 ≤ h3.size := Nat.le_trans Sz14 K3.1
  have Sz12 : n0 ≤ h5.size := Nat.le_trans Sz13 K5.1
  have Sz11 : n0 ≤ h7.size := Nat.le_trans Sz12 K7.1
  have Sz10 : n0 ≤ h9.size := Nat.le_trans Sz11 K9.1
  refine k_callS X9 hx hZ (y := (⟨"com/example/footwise/footwise/bench/BenchUsesImpassablePinLaw", "ofLength", "(IIIIII)[I"⟩ : MethodName)) hown (hw _ (List.mem_of_getElem? (i := 7) rfl)) (hw _ (List.mem_of_getElem? (i := 8) rfl)) (hw _ (List.mem_of_getElem? (i := 5) rfl)) (hw _ (List.mem_of_getElem? (i := 9) rfl)) (by decide) 0 e9 (rm2 l Z a0 hw n s0 s1 s2 s3 (0 : Int32) h9 n0 Sz10 k hk (by omega)) (by decide) (by decide) (by decide) (by decide) (by rw [hml]; rfl) (as := [(.int n), (.int s0), (.int s1), (.int s2), (.int s3), (.int (0 : Int32))]) (rest := []) pd_3 rfl (by first | exact Nat.le_refl _ | simp [Value.category]) (q := 139) rfl (hb hby at_136) ?_
  rintro _ T15 L15 X15 ⟨sa, rfl, N15q, K15, le15, V15⟩
  have N15 := Fr.app N9 N15q
  show End _ _ _ _ _ _ _ (T15.setTop (mkF m 139 #[.val (.int x0), .val (.int x1), .val (.int x2), .val (.double (9218868437227405312 : UInt64)), .second, .val (.double (FP.i2d (x2 &&& (65535 : Int32)))), .second, .val (.int (x0 &&& (3 : Int32))), .val (.int (((x0.toUInt32 >>> ((2 : Int32) &&& 31).toUInt32).toInt32) &&& (3 : Int32))), .val (.int (((x0.toUInt32 >>> ((4 : Int32) &&& 31).toUInt32).toInt32) &&& (3 : Int32))), .val (.int (((x0.toUInt32 >>> ((6 : Int32) &&& 31).toUInt32).toInt32) &&& (3 : Int32))), .val (.ref ca), .val (.int n), .val (.int s0), .val (.int s1), .val (.int s2), .val (.int s3), .unset, .unset, .unset, .unset] [(.ref sa)]))
  refine k_astore X15 hx (L' := #[.val (.int x0), .val (.int x1), .val (.int x2), .val (.double (9218868437227405312 : UInt64)), .second, .val (.double (FP.i2d (x2 &&& (65535 : Int32)))), .second, .val (.int (x0 &&& (3 : Int32))), .val (.int (((x0.toUInt32 >>> ((2 : Int32) &&& 31).toUInt32).toInt32) &&& (3 : Int32))), .val (.int (((x0.toUInt32 >>> ((4 : Int32) &&& 31).toUInt32).toInt32) &&& (3 : Int32))), .val (.int (((x0.toUInt32 >>> ((6 : Int32) &&& 31).toUInt32).toInt32) &&& (3 : Int32))), .val (.ref ca), .val (.int n), .val (.int s0), .val (.int s1), .val (.int s2), .val (.int s3), .val (.ref sa), .unset, .unset, .unset]) (q := 141) rfl (hb hby at_139) rfl rfl ?_
  refine k_iload X15 hx (q := 143) rfl (hb hby at_141) rfl ?_
  refine k_iconst X15 hx (v := (1 : Int32)) rfl (q := 144) rfl (hb hby at_143) ?_
  refine k_iadd X15 hx (q := 145) rfl (hb hby at_144) ?_
  refine k_iconst X15 hx (v := (0 : Int32)) rfl (q := 146) rfl (hb hby at_145) ?_
  refine k_iconst X15 hx (v := (1 : Int32)) rfl (q := 147) rfl (hb hby at_146) ?_
  refine k_iconst X15 hx (v := (2 : Int32)) rfl (q := 148) rfl (hb hby at_147) ?_
  refine k_iconst X15 hx (v := (3 : Int32)) rfl (q := 149) rfl (hb hby at_148) ?_
  refine k_iconst X15 hx (v := (4 : Int32)) rfl (q := 150) rfl (hb hby at_149) ?_
  have Sz16 : n0 ≤ T15.heap.size := Nat.le_trans Sz10 K15.1
  refine k_callS X15 hx hZ (y := (⟨"com/example/footwise/footwise/bench/BenchUsesImpassablePinLaw", "ofLength", "(IIIIII)[I"⟩ : MethodName)) hown (hw _ (List.mem_of_getElem? (i := 7) rfl)) (hw _ (List.mem_of_getElem? (i := 8) rfl)) (hw _ (List.mem_of_getElem? (i := 5) rfl)) (hw _ (List.mem_of_getElem? (i := 9) rfl)) (by decide) 0 rfl (rm2 l Z a0 hw (n + (1 : Int32)) (0 : Int32) (1 : Int32) (2 : Int32) (3 : Int32) (4 : Int32) T15.heap n0 Sz16 (k + 1) (own_up hk (by omega)) (by omega)) (by decide) (by decide) (by decide) (by decide) (by rw [hml]; rfl) (as := [(.int (n + (1 : Int32))), (.int (0 : Int32)), (.int (1 : Int32)), (.int (2 : Int32)), (.int (3 : Int32)), (.int (4 : Int32))]) (rest := []) pd_3 rfl (by first | exact Nat.le_refl _ | simp [Value.category]) (q := 153) rfl (hb hby at_150) ?_
  rintro _ T17 L17 X17 ⟨na, rfl, N17q, K17, le17, V17⟩
  have N17 := Fr.app N15 N17q
  show End _ _ _ _ _ _ _ (T17.setTop (mkF m 153 #[.val (.int x0), .val (.int x1), .val (.int x2), .val (.double (9218868437227405312 : UInt64)), .second, .val (.double (FP.i2d (x2 &&& (65535 : Int32)))), .second, .val (.int (x0 &&& (3 : Int32))), .val (.int (((x0.toUInt32 >>> ((2 : Int32) &&& 31).toUInt32).toInt32) &&& (3 : Int32))), .val (.int (((x0.toUInt32 >>> ((4 : Int32) &&& 31).toUInt32).toInt32) &&& (3 : Int32))), .val (.int (((x0.toUInt32 >>> ((6 : Int32) &&& 31).toUInt32).toInt32) &&& (3 : Int32))), .val (.ref ca), .val (.int n), .val (.int s0), .val (.int s1), .val (.int s2), .val (.int s3), .val (.ref sa), .unset, .unset, .unset] [(.ref na)]))
  refine k_astore X17 hx (L' := #[.val (.int x0), .val (.int x1), .val (.int x2), .val (.double (9218868437227405312 : UInt64)), .second, .val (.double (FP.i2d (x2 &&& (65535 : Int32)))), .second, .val (.int (x0 &&& (3 : Int32))), .val (.int (((x0.toUInt32 >>> ((2 : Int32) &&& 31).toUInt32).toInt32) &&& (3 : Int32))), .val (.int (((x0.toUInt32 >>> ((4 : Int32) &&& 31).toUInt32).toInt32) &&& (3 : Int32))), .val (.int (((x0.toUInt32 >>> ((6 : Int32) &&& 31).toUInt32).toInt32) &&& (3 : Int32))), .val (.ref ca), .val (.int n), .val (.int s0), .val (.int s1), .val (.int s2), .val (.int s3), .val (.ref sa), .val (.ref na), .unset, .unset]) (q := 155) rfl (hb hby at_153) rfl rfl ?_
  refine k_new X17 hx hZ hown (hw _ (List.mem_of_getElem? (i := 11) rfl)) (hw _ (List.mem_of_getElem? (i := 12) rfl)) (hw _ (List.mem_of_getElem? (i := 13) rfl)) rfl (q := 158) rfl (hb hby at_155) (by decide) (by decide) ?_
  intro T18 h18 ra X18 e18 g18 E18 A18 D18
  have K18 := Keep.of_ext E18
  have F19 : Fld Z h18 ra "com/example/footwise/footwise/search/Route" "nodes" "[I" .null := D18 (Or.inr (hw _ (List.mem_of_getElem? (i := 26) rfl))) (ty := (.array .int)) (by decide)
  have F20 : Fld Z h18 ra "com/example/footwise/footwise/search/Route" "sections" "[I" .null := D18 (Or.inr (hw _ (List.mem_of_getElem? (i := 28) rfl))) (ty := (.array .int)) (by decide)
  have F21 : Fld Z h18 ra "com/example/footwise/footwise/search/Route" "cost" "D" (.double (0 : UInt64)) := D18 (Or.inr (hw _ (List.mem_of_getElem? (i := 30) rfl))) (ty := .double) (by decide)
  refine k_dup X18 hx (q := 159) rfl (hb hby at_158) rfl ?_
  refine k_aload X18 hx (q := 161) rfl (hb hby at_159) rfl rfl ?_
  refine k_aload X18 hx (q := 163) rfl (hb hby at_161) rfl rfl ?_
  refine k_dconst0 X18 hx (q := 164) rfl (hb hby at_163) (v := (0 : UInt64)) (by decide) ?_
  have Sz22 : n0 ≤ T17.heap.size := Nat.le_trans Sz16 K17.1
  have ge_ra : n0 ≤ ra := Nat.le_trans Sz22 (Nat.le_of_eq g18.symm)
  refine k_callI X18 hx hZ (y := (⟨"com/example/footwise/footwise/search/Route", "<init>", "([I[ID)V"⟩ : MethodName)) hown rfl (hw _ (List.mem_of_getElem? (i := 14) rfl)) (hw _ (List.mem_of_getElem? (i := 15) rfl)) (hw _ (List.mem_of_getElem? (i := 13) rfl)) (hw _ (List.mem_of_getElem? (i := 16) rfl)) (by decide) 1 e18 (rm3 l Z a0 hw ra na sa (0 : UInt64) h18 n0 ge_ra A18 F19 F20 F21) (by decide) (by decide) (by decide) (by decide) (by rw [hml]; rfl) (a := ra) (as := [(.ref na), (.ref sa), (.double (0 : UInt64))]) (rest := [(.ref ra)]) pd_4 rfl (by first | exact Nat.le_refl _ | simp [Value.category]) (q := 167) rfl (hb hby at_164) ?_
  rintro _ T23 L23 X23 ⟨rfl, N23q, K23, Fn23, Fs23, Fc23⟩
  have N23 := Fr.app N17 N23q
  show End _ _ _ _ _ _ _ (T23.setTop (mkF m 167 #[.val (.int x0), .val (.int x1), .val (.int x2), .val (.double (9218868437227405312 : UInt64)), .second, .val (.double (FP.i2d (x2 &&& (65535 : Int32)))), .second, .val (.int (x0 &&& (3 : Int32))), .val (.int (((x0.toUInt32 >>> ((2 : Int32) &&& 31).toUInt32).toInt32) &&& (3 : Int32))), .val (.int (((x0.toUInt32 >>> ((4 : Int32) &&& 31).toUInt32).toInt32) &&& (3 : Int32))), .val (.int (((x0.toUInt32 >>> ((6 : Int32) &&& 31).toUInt32).toInt32) &&& (3 : Int32))), .val (.ref ca), .val (.int n), .val (.int s0), .val (.int s1), .val (.int s2), .val (.int s3), .val (.ref sa), .val (.ref na), .unset, .unset] [(.ref ra)]))
  refine k_astore X23 hx (L' := #[.val (.int x0), .val (.int x1), .val (.int x2), .val (.double (9218868437227405312 : UInt64)), .second, .val (.double (FP.i2d (x2 &&& (65535 : Int32)))), .second, .val (.int (x0 &&& (3 : Int32))), .val (.int (((x0.toUInt32 >>> ((2 : Int32) &&& 31).toUInt32).toInt32) &&& (3 : Int32))), .val (.int (((x0.toUInt32 >>> ((4 : Int32) &&& 31).toUInt32).toInt32) &&& (3 : Int32))), .val (.int (((x0.toUInt32 >>> ((6 : Int32) &&& 31).toUInt32).toInt32) &&& (3 : Int32))), .val (.ref ca), .val (.int n), .val (.int s0), .val (.int s1), .val (.int s2), .val (.int s3), .val (.ref sa), .val (.ref na), .val (.ref ra), .unset]) (q := 169) rfl (hb hby at_167) rfl rfl ?_
  have hsc : ∀ t, t < k → Ix (own_of s0 s1 s2 s3 (0 : Int32) t) (if t = 0 then i0 else if t = 1 then i1 else if t = 2 then i2 else i3) ∧ (if t = 0 then i0 else if t = 1 then i1 else if t = 2 then i2 else i3) < 4 := by
    intro t ht
    have : t = 0 ∨ t = 1 ∨ t = 2 ∨ t = 3 := by omega
    rcases this with rfl | rfl | rfl | rfl
    · exact ⟨hi0, hi04⟩
    · exact ⟨hi1, hi14⟩
    · exact ⟨hi2, hi24⟩
    · exact ⟨hi3, hi34⟩
  obtain ⟨si, hsi⟩ : ∃ si : Nat → Nat, si = fun t => if t = 0 then i0 else if t = 1 then i1 else if t = 2 then i2 else i3 := ⟨_, rfl⟩
  have hsc' : ∀ t, t < k → Ix (own_of s0 s1 s2 s3 (0 : Int32) t) (si t) ∧ si t < 4 := by rw [hsi]; exact hsc
  have hfin : Jvm.Free.Fl.Fin64 (FP.i2d (x2 &&& (65535 : Int32))) := by rw [Jvm.RoadKit.i2d_w]; exact Fl.l2d_fin _
  have J24 : ∀ (TJ24 : State) (lcJ24 : List Loc), Stand p l e room_1 s m #[(.int x0), (.int x1), (.int x2)] below meth c TJ24 lcJ24 4 17 → TJ24.heap = T23.heap → Fr n0 lcJ24 → ∀ (z : Int32), (z = 1 ∧ (∃ t, t < k ∧ own_cd x0 (si t) = 2) ∨ z = 0 ∧ ∀ t, t < k → ¬ own_cd x0 (si t) = 2) → End p e below s (fun v h L => v = some (.int 1) ∧ Fr n0 L) room_1.cells room_1.slots (TJ24.setTop (mkF m 237 #[.val (.int x0), .val (.int x1), .val (.int x2), .val (.double (9218868437227405312 : UInt64)), .second, .val (.double (FP.i2d (x2 &&& (65535 : Int32)))), .second, .val (.int (x0 &&& (3 : Int32))), .val (.int (((x0.toUInt32 >>> ((2 : Int32) &&& 31).toUInt32).toInt32) &&& (3 : Int32))), .val (.int (((x0.toUInt32 >>> ((4 : Int32) &&& 31).toUInt32).toInt32) &&& (3 : Int32))), .val (.int (((x0.toUInt32 >>> ((6 : Int32) &&& 31).toUInt32).toInt32) &&& (3 : Int32))), .val (.ref ca), .val (.int n), .val (.int s0), .val (.int s1), .val (.int s2), .val (.int s3), .val (.ref sa), .val (.ref na), .val (.ref ra), .unset] [(.int z)])) := by
    intro TJ24 lcJ24 XJ24 eJ24 NJ24 z hz
    refine k_istore XJ24 hx (L' := #[.val (.int x0), .val (.int x1), .val (.int x2), .val (.double (9218868437227405312 : UInt64)), .second, .val (.double (FP.i2d (x2 &&& (65535 : Int32)))), .second, .val (.int (x0 &&& (3 : Int32))), .val (.int (((x0.toUInt32 >>> ((2 : Int32) &&& 31).toUInt32).toInt32) &&& (3 : Int32))), .val (.int (((x0.toUInt32 >>> ((4 : Int32) &&& 31).toUInt32).toInt32) &&& (3 : Int32))), .val (.int (((x0.toUInt32 >>> ((6 : Int32) &&& 31).toUInt32).toInt32) &&& (3 : Int32))), .val (.ref ca), .val (.int n), .val (.int s0), .val (.int s1), .val (.int s2), .val (.int s3), .val (.ref sa), .val (.ref na), .val (.ref ra), .val (.int z)]) (q := 239) rfl (hb hby at_237) rfl ?_
    refine k_aload XJ24 hx (q := 241) rfl (hb hby at_239) rfl rfl ?_
    refine k_aload XJ24 hx (q := 243) rfl (hb hby at_241) rfl rfl ?_
    have G40 := (A18.keep K23)
    have G41 := (V15.keep K17 nin0)
    have ne_sa_ra : sa ≠ ra := Nat.ne_of_lt (Nat.lt_of_lt_of_le (G41).lt (Nat.le_of_eq g18.symm))
    have G42 := (((V15.keep K17 nin0).keep K18 nin0).keep K23 (ninS ne_sa_ra nin0))
    have G43 := ((Vc.keep K15 nin0).keep K17 nin0)
    have ne_ca_ra : ca ≠ ra := Nat.ne_of_lt (Nat.lt_of_lt_of_le (G43).lt (Nat.le_of_eq g18.symm))
    have G44 := ((((Vc.keep K15 nin0).keep K17 nin0).keep K18 nin0).keep K23 (ninS ne_ca_ra nin0))
    refine k_callS XJ24 hx hZ (y := (⟨"com/example/footwise/footwise/bench/Bench", "usesImpassable", "(Lcom/example/footwise/footwise/search/Route;[D)Z"⟩ : MethodName)) hown (hw _ (List.mem_of_getElem? (i := 34) rfl)) (hw _ (List.mem_of_getElem? (i := 35) rfl)) (hw _ (List.mem_of_getElem? (i := 36) rfl)) (hw _ (List.mem_of_getElem? (i := 37) rfl)) (by decide) 0 eJ24 (rm7 l Z a0 hw ra ca T23.heap n0 G40 sa Fs23 k (by omega) (own_of s0 s1 s2 s3 (0 : Int32)) si hsc' (fun t => f1 (own_cd x0 t) (9218868437227405312 : UInt64) (FP.i2d (x2 &&& (65535 : Int32)))) (fun t _ => (own_cost hfin).1) G42 G44) (by decide) (by decide) (by decide) (by decide) (by rw [hml]; rfl) (as := [(.ref ra), (.ref ca)]) (rest := []) pd_6 rfl (by first | exact Nat.le_refl _ | simp [Value.category]) (q := 246) rfl (hb hby at_243) ?_
    rintro _ T45 L45 X45 ⟨r, rfl, N45q, e45, hr⟩
    have N45 := Fr.app NJ24 N45q
    show End _ _ _ _ _ _ _ (T45.setTop (mkF m 246 #[.val (.int x0), .val (.int x1), .val (.int x2), .val (.double (9218868437227405312 : UInt64)), .second, .val (.double (FP.i2d (x2 &&& (65535 : Int32)))), .second, .val (.int (x0 &&& (3 : Int32))), .val (.int (((x0.toUInt32 >>> ((2 : Int32) &&& 31).toUInt32).toInt32) &&& (3 : Int32))), .val (.int (((x0.toUInt32 >>> ((4 : Int32) &&& 31).toUInt32).toInt32) &&& (3 : Int32))), .val (.int (((x0.toUInt32 >>> ((6 : Int32) &&& 31).toUInt32).toInt32) &&& (3 : Int32))), .val (.ref ca), .val (.int n), .val (.int s0), .val (.int s1), .val (.int s2), .val (.int s3), .val (.ref sa), .val (.ref na), .val (.ref ra), .val (.int z)] [(.int r)]))
    refine k_iload X45 hx (q := 248) rfl (hb hby at_246) rfl ?_
    have hrz : r = z := by
      rcases hr with ⟨rfl, t, ht, hc⟩ | ⟨rfl, hc⟩ <;> rcases hz with ⟨rfl, t', ht', hc'⟩ | ⟨rfl, hc'⟩
      · rfl
      · exact absurd ((own_cost hfin).2.mp hc) (hc' t ht)
      · exact absurd ((own_cost hfin).2.mpr hc') (hc t' ht')
      · rfl
    refine k_icmp_ne X45 hx (q1 := 255) (q := 251) (by decide) (by decide) rfl (hb hby at_248) (fun hc => absurd hrz hc) (fun _ => ?_)
    refine k_iconst X45 hx (v := (1 : Int32)) rfl (q := 252) rfl (hb hby at_251) ?_
    refine k_goto X45 hx (q := 256) (by decide) (by decide) (hb hby at_252) ?_
    exact k_retN X45 hx (t := .boolean) hlk (by decide) (by decide) hret (by simp) (hb hby at_256) ⟨rfl, N45⟩
  have J25 : ∀ (TJ25 : State) (lcJ25 : List Loc), Stand p l e room_1 s m #[(.int x0), (.int x1), (.int x2)] below meth c TJ25 lcJ25 4 17 → TJ25.heap = T23.heap → Fr n0 lcJ25 → ∀ (_ : Unit), (∀ t, t < 1 → t < k → ¬ own_cd x0 (si t) = 2) → End p e below s (fun v h L => v = some (.int 1) ∧ Fr n0 L) room_1.cells room_1.slots (TJ25.setTop (mkF m 184 #[.val (.int x0), .val (.int x1), .val (.int x2), .val (.double (9218868437227405312 : UInt64)), .second, .val (.double (FP.i2d (x2 &&& (65535 : Int32)))), .second, .val (.int (x0 &&& (3 : Int32))), .val (.int (((x0.toUInt32 >>> ((2 : Int32) &&& 31).toUInt32).toInt32) &&& (3 : Int32))), .val (.int (((x0.toUInt32 >>> ((4 : Int32) &&& 31).toUInt32).toInt32) &&& (3 : Int32))), .val (.int (((x0.toUInt32 >>> ((6 : Int32) &&& 31).toUInt32).toInt32) &&& (3 : Int32))), .val (.ref ca), .val (.int n), .val (.int s0), .val (.int s1), .val (.int s2), .val (.int s3), .val (.ref sa), .val (.ref na), .val (.ref ra), .unset] [])) := by
    intro TJ25 lcJ25 XJ25 eJ25 NJ25 _ hno1
    have J26 : ∀ (TJ26 : State) (lcJ26 : List Loc), Stand p l e room_1 s m #[(.int x0), (.int x1), (.int x2)] below meth c TJ26 lcJ26 4 17 → TJ26.heap = T23.heap → Fr n0 lcJ26 → ∀ (_ : Unit), (∀ t, t < 2 → t < k → ¬ own_cd x0 (si t) = 2) → End p e below s (fun v h L => v = some (.int 1) ∧ Fr n0 L) room_1.cells room_1.slots (TJ26.setTop (mkF m 200 #[.val (.int x0), .val (.int x1), .val (.int x2), .val (.double (9218868437227405312 : UInt64)), .second, .val (.double (FP.i2d (x2 &&& (65535 : Int32)))), .second, .val (.int (x0 &&& (3 : Int32))), .val (.int (((x0.toUInt32 >>> ((2 : Int32) &&& 31).toUInt32).toInt32) &&& (3 : Int32))), .val (.int (((x0.toUInt32 >>> ((4 : Int32) &&& 31).toUInt32).toInt32) &&& (3 : Int32))), .val (.int (((x0.toUInt32 >>> ((6 : Int32) &&& 31).toUInt32).toInt32) &&& (3 : Int32))), .val (.ref ca), .val (.int n), .val (.int s0), .val (.int s1), .val (.int s2), .val (.int s3), .val (.ref sa), .val (.ref na), .val (.ref ra), .unset] [])) := by
      intro TJ26 lcJ26 XJ26 eJ26 NJ26 _ hno2
      have J27 : ∀ (TJ27 : State) (lcJ27 : List Loc), Stand p l e room_1 s m #[(.int x0), (.int x1), (.int x2)] below meth c TJ27 lcJ27 4 17 → TJ27.heap = T23.heap → Fr n0 lcJ27 → ∀ (_ : Unit), (∀ t, t < 3 → t < k → ¬ own_cd x0 (si t) = 2) → End p e below s (fun v h L => v = some (.int 1) ∧ Fr n0 L) room_1.cells room_1.slots (TJ27.setTop (mkF m 216 #[.val (.int x0), .val (.int x1), .val (.int x2), .val (.double (9218868437227405312 : UInt64)), .second, .val (.double (FP.i2d (x2 &&& (65535 : Int32)))), .second, .val (.int (x0 &&& (3 : Int32))), .val (.int (((x0.toUInt32 >>> ((2 : Int32) &&& 31).toUInt32).toInt32) &&& (3 : Int32))), .val (.int (((x0.toUInt32 >>> ((4 : Int32) &&& 31).toUInt32).toInt32) &&& (3 : Int32))), .val (.int (((x0.toUInt32 >>> ((6 : Int32) &&& 31).toUInt32).toInt32) &&& (3 : Int32))), .val (.ref ca), .val (.int n), .val (.int s0), .val (.int s1), .val (.int s2), .val (.int s3), .val (.ref sa), .val (.ref na), .val (.ref ra), .unset] [])) := by
        intro TJ27 lcJ27 XJ27 eJ27 NJ27 _ hno3
        refine k_iload XJ27 hx (q := 218) rfl (hb hby at_216) rfl ?_
        refine k_iconst XJ27 hx (v := (3 : Int32)) rfl (q := 219) rfl (hb hby at_218) ?_
        refine k_icmp_le XJ27 hx (q1 := 236) (q := 222) (by decide) (by decide) rfl (hb hby at_219) (fun hc28 => ?_) (fun hc28 => ?_)
        · refine k_iconst XJ27 hx (v := (0 : Int32)) rfl (q := 237) rfl (hb hby at_236) ?_
          exact J24 _ _ XJ27 eJ27 NJ27 _ (Or.inr ⟨rfl, fun t ht2 => (show ∀ t, t < 4 → t < k → ¬ own_cd x0 (si t) = 2 from fun t ht1 ht2 => by
            by_cases q : t = 3
            · subst q; exact absurd ((own_lt (k := 3) (n := k) ⟨by decide, by decide⟩ hk).mpr ht2) hc28
            · exact hno3 t (by omega) ht2) t (by omega) ht2⟩)
        · refine k_iloadN XJ27 hx (q := 223) rfl (hb hby at_222) rfl ?_
          refine k_iload XJ27 hx (q := 225) rfl (hb hby at_223) rfl ?_
          refine k_callS XJ27 hx hZ (y := (⟨"com/example/footwise/footwise/bench/BenchUsesImpassablePinLaw", "code", "(II)I"⟩ : MethodName)) hown (hw _ (List.mem_of_getElem? (i := 31) rfl)) (hw _ (List.mem_of_getElem? (i := 32) rfl)) (hw _ (List.mem_of_getElem? (i := 5) rfl)) (hw _ (List.mem_of_getElem? (i := 33) rfl)) (by decide) 0 eJ27 (rm6 l Z a0 hw x0 s3 T23.heap n0) (by decide) (by decide) (by decide) (by decide) (by rw [hml]; rfl) (as := [(.int x0), (.int s3)]) (rest := []) pd_5 rfl (by first | exact Nat.le_refl _ | simp [Value.category]) (q := 228) rfl (hb hby at_225) ?_
          rintro _ T29 L29 X29 ⟨rfl, N29q, e29⟩
          have N29 := Fr.app NJ27 N29q
          show End _ _ _ _ _ _ _ (T29.setTop (mkF m 228 #[.val (.int x0), .val (.int x1), .val (.int x2), .val (.double (9218868437227405312 : UInt64)), .second, .val (.double (FP.i2d (x2 &&& (65535 : Int32)))), .second, .val (.int (x0 &&& (3 : Int32))), .val (.int (((x0.toUInt32 >>> ((2 : Int32) &&& 31).toUInt32).toInt32) &&& (3 : Int32))), .val (.int (((x0.toUInt32 >>> ((4 : Int32) &&& 31).toUInt32).toInt32) &&& (3 : Int32))), .val (.int (((x0.toUInt32 >>> ((6 : Int32) &&& 31).toUInt32).toInt32) &&& (3 : Int32))), .val (.ref ca), .val (.int n), .val (.int s0), .val (.int s1), .val (.int s2), .val (.int s3), .val (.ref sa), .val (.ref na), .val (.ref ra), .unset] [(.int (f6 x0 s3))]))
          refine k_iconst X29 hx (v := (2 : Int32)) rfl (q := 229) rfl (hb hby at_228) ?_
          have hcd : f6 x0 s3 = own_cd x0 (si 3) := by rw [hsi]; exact own_code x0 hi3 hi34
          refine k_icmp_ne X29 hx (q1 := 236) (q := 232) (by decide) (by decide) rfl (hb hby at_229) (fun hc30 => ?_) (fun hc30 => ?_)
          · refine k_iconst X29 hx (v := (0 : Int32)) rfl (q := 237) rfl (hb hby at_236) ?_
            exact J24 _ _ X29 e29 N29 _ (Or.inr ⟨rfl, fun t ht2 => (show ∀ t, t < 4 → t < k → ¬ own_cd x0 (si t) = 2 from fun t ht1 ht2 => by
              by_cases q : t = 3
              · subst q; rw [← hcd]; exact hc30
              · exact hno3 t (by omega) ht2) t (by omega) ht2⟩)
          · refine k_iconst X29 hx (v := (1 : Int32)) rfl (q := 233) rfl (hb hby at_232) ?_
            refine k_goto X29 hx (q := 237) (by decide) (by decide) (hb hby at_233) ?_
            exact J24 _ _ X29 e29 N29 _ (Or.inl ⟨rfl, 3, (own_lt (k := 3) (n := k) ⟨by decide, by decide⟩ hk).mp hc28, by rw [← hcd]; exact hc30⟩)
      refine k_iload XJ26 hx (q := 202) rfl (hb hby at_200) rfl ?_
      refine k_iconst XJ26 hx (v := (2 : Int32)) rfl (q := 203) rfl (hb hby at_202) ?_
      refine k_icmp_le XJ26 hx (q1 := 216) (q := 206) (by decide) (by decide) rfl (hb hby at_203) (fun hc31 => ?_) (fun hc31 => ?_)
      · exact J27 _ _ XJ26 eJ26 NJ26 () (show ∀ t, t < 3 → t < k → ¬ own_cd x0 (si t) = 2 from fun t ht1 ht2 => by
          by_cases q : t = 2
          · subst q; exact absurd ((own_lt (k := 2) (n := k) ⟨by decide, by decide⟩ hk).mpr ht2) hc31
          · exact hno2 t (by omega) ht2)
      · refine k_iloadN XJ26 hx (q := 207) rfl (hb hby at_206) rfl ?_
        refine k_iload XJ26 hx (q := 209) rfl (hb hby at_207) rfl ?_
        refine k_callS XJ26 hx hZ (y := (⟨"com/example/footwise/footwise/bench/BenchUsesImpassablePinLaw", "code", "(II)I"⟩ : MethodName)) hown (hw _ (List.mem_of_getElem? (i := 31) rfl)) (hw _ (List.mem_of_getElem? (i := 32) rfl)) (hw _ (List.mem_of_getElem? (i := 5) rfl)) (hw _ (List.mem_of_getElem? (i := 33) rfl)) (by decide) 0 eJ26 (rm6 l Z a0 hw x0 s2 T23.heap n0) (by decide) (by decide) (by decide) (by decide) (by rw [hml]; rfl) (as := [(.int x0), (.int s2)]) (rest := []) pd_5 rfl (by first | exact Nat.le_refl _ | simp [Value.category]) (q := 212) rfl (hb hby at_209) ?_
        rintro _ T32 L32 X32 ⟨rfl, N32q, e32⟩
        have N32 := Fr.app NJ26 N32q
        show End _ _ _ _ _ _ _ (T32.setTop (mkF m 212 #[.val (.int x0), .val (.int x1), .val (.int x2), .val (.double (9218868437227405312 : UInt64)), .second, .val (.double (FP.i2d (x2 &&& (65535 : Int32)))), .second, .val (.int (x0 &&& (3 : Int32))), .val (.int (((x0.toUInt32 >>> ((2 : Int32) &&& 31).toUInt32).toInt32) &&& (3 : Int32))), .val (.int (((x0.toUInt32 >>> ((4 : Int32) &&& 31).toUInt32).toInt32) &&& (3 : Int32))), .val (.int (((x0.toUInt32 >>> ((6 : Int32) &&& 31).toUInt32).toInt32) &&& (3 : Int32))), .val (.ref ca), .val (.int n), .val (.int s0), .val (.int s1), .val (.int s2), .val (.int s3), .val (.ref sa), .val (.ref na), .val (.ref ra), .unset] [(.int (f6 x0 s2))]))
        refine k_iconst X32 hx (v := (2 : Int32)) rfl (q := 213) rfl (hb hby at_212) ?_
        have hcd : f6 x0 s2 = own_cd x0 (si 2) := by rw [hsi]; exact own_code x0 hi2 hi24
        refine k_icmp_eq X32 hx (q1 := 232) (q := 216) (by decide) (by decide) rfl (hb hby at_213) (fun hc33 => ?_) (fun hc33 => ?_)
        · refine k_iconst X32 hx (v := (1 : Int32)) rfl (q := 233) rfl (hb hby at_232) ?_
          refine k_goto X32 hx (q := 237) (by decide) (by decide) (hb hby at_233) ?_
          exact J24 _ _ X32 e32 N32 _ (Or.inl ⟨rfl, 2, (own_lt (k := 2) (n := k) ⟨by decide, by decide⟩ hk).mp hc31, by rw [← hcd]; exact hc33⟩)
        · exact J27 _ _ X32 e32 N32 () (show ∀ t, t < 3 → t < k → ¬ own_cd x0 (si t) = 2 from fun t ht1 ht2 => by
            by_cases q : t = 2
            · subst q; rw [← hcd]; exact hc33
            · exact hno2 t (by omega) ht2)
    refine k_iload XJ25 hx (q := 186) rfl (hb hby at_184) rfl ?_
    refine k_iconst XJ25 hx (v := (1 : Int32)) rfl (q := 187) rfl (hb hby at_186) ?_
    refine k_icmp_le XJ25 hx (q1 := 200) (q := 190) (by decide) (by decide) rfl (hb hby at_187) (fun hc34 => ?_) (fun hc34 => ?_)
    · exact J26 _ _ XJ25 eJ25 NJ25 () (show ∀ t, t < 2 → t < k → ¬ own_cd x0 (si t) = 2 from fun t ht1 ht2 => by
        by_cases q : t = 1
        · subst q; exact absurd ((own_lt (k := 1) (n := k) ⟨by decide, by decide⟩ hk).mpr ht2) hc34
        · exact hno1 t (by omega) ht2)
    · refine k_iloadN XJ25 hx (q := 191) rfl (hb hby at_190) rfl ?_
      refine k_iload XJ25 hx (q := 193) rfl (hb hby at_191) rfl ?_
      refine k_callS XJ25 hx hZ (y := (⟨"com/example/footwise/footwise/bench/BenchUsesImpassablePinLaw", "code", "(II)I"⟩ : MethodName)) hown (hw _ (List.mem_of_getElem? (i := 31) rfl)) (hw _ (List.mem_of_getElem? (i := 32) rfl)) (hw _ (List.mem_of_getElem? (i := 5) rfl)) (hw _ (List.mem_of_getElem? (i := 33) rfl)) (by decide) 0 eJ25 (rm6 l Z a0 hw x0 s1 T23.heap n0) (by decide) (by decide) (by decide) (by decide) (by rw [hml]; rfl) (as := [(.int x0), (.int s1)]) (rest := []) pd_5 rfl (by first | exact Nat.le_refl _ | simp [Value.category]) (q := 196) rfl (hb hby at_193) ?_
      rintro _ T35 L35 X35 ⟨rfl, N35q, e35⟩
      have N35 := Fr.app NJ25 N35q
      show End _ _ _ _ _ _ _ (T35.setTop (mkF m 196 #[.val (.int x0), .val (.int x1), .val (.int x2), .val (.double (9218868437227405312 : UInt64)), .second, .val (.double (FP.i2d (x2 &&& (65535 : Int32)))), .second, .val (.int (x0 &&& (3 : Int32))), .val (.int (((x0.toUInt32 >>> ((2 : Int32) &&& 31).toUInt32).toInt32) &&& (3 : Int32))), .val (.int (((x0.toUInt32 >>> ((4 : Int32) &&& 31).toUInt32).toInt32) &&& (3 : Int32))), .val (.int (((x0.toUInt32 >>> ((6 : Int32) &&& 31).toUInt32).toInt32) &&& (3 : Int32))), .val (.ref ca), .val (.int n), .val (.int s0), .val (.int s1), .val (.int s2), .val (.int s3), .val (.ref sa), .val (.ref na), .val (.ref ra), .unset] [(.int (f6 x0 s1))]))
      refine k_iconst X35 hx (v := (2 : Int32)) rfl (q := 197) rfl (hb hby at_196) ?_
      have hcd : f6 x0 s1 = own_cd x0 (si 1) := by rw [hsi]; exact own_code x0 hi1 hi14
      refine k_icmp_eq X35 hx (q1 := 232) (q := 200) (by decide) (by decide) rfl (hb hby at_197) (fun hc36 => ?_) (fun hc36 => ?_)
      · refine k_iconst X35 hx (v := (1 : Int32)) rfl (q := 233) rfl (hb hby at_232) ?_
        refine k_goto X35 hx (q := 237) (by decide) (by decide) (hb hby at_233) ?_
        exact J24 _ _ X35 e35 N35 _ (Or.inl ⟨rfl, 1, (own_lt (k := 1) (n := k) ⟨by decide, by decide⟩ hk).mp hc34, by rw [← hcd]; exact hc36⟩)
      · exact J26 _ _ X35 e35 N35 () (show ∀ t, t < 2 → t < k → ¬ own_cd x0 (si t) = 2 from fun t ht1 ht2 => by
          by_cases q : t = 1
          · subst q; rw [← hcd]; exact hc36
          · exact hno1 t (by omega) ht2)
  refine k_iload X23 hx (q := 171) rfl (hb hby at_169) rfl ?_
  refine k_if_le X23 hx (q1 := 184) (q := 174) (by decide) (by decide) rfl (hb hby at_171) (fun hc37 => ?_) (fun hc37 => ?_)
  · exact J25 _ _ X23 rfl N23 () (show ∀ t, t < 1 → t < k → ¬ own_cd x0 (si t) = 2 from fun t ht1 ht2 => by
      by_cases q : t = 0
      · subst q; exact absurd ((own_lt (k := 0) (n := k) ⟨by decide, by decide⟩ hk).mpr ht2) hc37
      · exact absurd ht1 (by omega))
  · refine k_iloadN X23 hx (q := 175) rfl (hb hby at_174) rfl ?_
    refine k_iload X23 hx (q := 177) rfl (hb hby at_175) rfl ?_
    refine k_callS X23 hx hZ (y := (⟨"com/example/footwise/footwise/bench/BenchUsesImpassablePinLaw", "code", "(II)I"⟩ : MethodName)) hown (hw _ (List.mem_of_getElem? (i := 31) rfl)) (hw _ (List.mem_of_getElem? (i := 32) rfl)) (hw _ (List.mem_of_getElem? (i := 5) rfl)) (hw _ (List.mem_of_getElem? (i := 33) rfl)) (by decide) 0 rfl (rm6 l Z a0 hw x0 s0 T23.heap n0) (by decide) (by decide) (by decide) (by decide) (by rw [hml]; rfl) (as := [(.int x0), (.int s0)]) (rest := []) pd_5 rfl (by first | exact Nat.le_refl _ | simp [Value.category]) (q := 180) rfl (hb hby at_177) ?_
    rintro _ T38 L38 X38 ⟨rfl, N38q, e38⟩
    have N38 := Fr.app N23 N38q
    show End _ _ _ _ _ _ _ (T38.setTop (mkF m 180 #[.val (.int x0), .val (.int x1), .val (.int x2), .val (.double (9218868437227405312 : UInt64)), .second, .val (.double (FP.i2d (x2 &&& (65535 : Int32)))), .second, .val (.int (x0 &&& (3 : Int32))), .val (.int (((x0.toUInt32 >>> ((2 : Int32) &&& 31).toUInt32).toInt32) &&& (3 : Int32))), .val (.int (((x0.toUInt32 >>> ((4 : Int32) &&& 31).toUInt32).toInt32) &&& (3 : Int32))), .val (.int (((x0.toUInt32 >>> ((6 : Int32) &&& 31).toUInt32).toInt32) &&& (3 : Int32))), .val (.ref ca), .val (.int n), .val (.int s0), .val (.int s1), .val (.int s2), .val (.int s3), .val (.ref sa), .val (.ref na), .val (.ref ra), .unset] [(.int (f6 x0 s0))]))
    refine k_iconst X38 hx (v := (2 : Int32)) rfl (q := 181) rfl (hb hby at_180) ?_
    have hcd : f6 x0 s0 = own_cd x0 (si 0) := by rw [hsi]; exact own_code x0 hi0 hi04
    refine k_icmp_eq X38 hx (q1 := 232) (q := 184) (by decide) (by decide) rfl (hb hby at_181) (fun hc39 => ?_) (fun hc39 => ?_)
    · refine k_iconst X38 hx (v := (1 : Int32)) rfl (q := 233) rfl (hb hby at_232) ?_
      refine k_goto X38 hx (q := 237) (by decide) (by decide) (hb hby at_233) ?_
      exact J24 _ _ X38 e38 N38 _ (Or.inl ⟨rfl, 0, (own_lt (k := 0) (n := k) ⟨by decide, by decide⟩ hk).mp hc37, by rw [← hcd]; exact hc39⟩)
    · exact J25 _ _ X38 e38 N38 () (show ∀ t, t < 1 → t < k → ¬ own_cd x0 (si t) = 2 from fun t ht1 ht2 => by
        by_cases q : t = 0
        · subst q; rw [← hcd]; exact hc39
        · exact absurd ht1 (by omega))
set_option maxRecDepth 65536 in
set_option maxHeartbeats 40000000 in
theorem comes_1 {Post : Tables → Env → Array Value → State → Outcome → State → Prop} (hpost : ∀ tb e args s v u, (limb_1_1.after args s (.returned v) u = true ∧ limb_1_2.after args s (.returned v) u = true ∧ True) → FrameEnd s (.returned v) u (Jvm.fieldLocs frame_1_writes args s ++ Jvm.arrayLocs frame_1_arrays args s ++ Jvm.staticLocs frame_1_statics s) 16 128 → Post tb e args s (.returned v) u) :
    ArmFor flags0 classFile x code maxLocals ret World_1 tables_1 room_1 Calls_1 rest_1 Pre_1 Post := by
  intro l hfl _ _ p e ha hc hk s m args below hf hA hF happ hP
  obtain ⟨hcalls, hrest, hpre⟩ := hP
  obtain ⟨-, -, -, hnamed, -, -, -, hat⟩ := (Spec.applies_iff hf).mp happ
  obtain ⟨hg, hn⟩ := and_e (Cond.before_iff.mp (show (Jvm.Cond.and given_1 narrow_1).before args s = true from hpre))
  obtain ⟨gc, g0⟩ := and_e hg
  obtain ⟨a0, g1⟩ := and_e g0
  obtain ⟨a1, g2⟩ := and_e g1
  obtain ⟨w0, w1, w2, rfl⟩ : ∃ w0 w1 w2 : Value, args = #[w0, w1, w2] := by
    have hs : args.size = 3 := by simpa [Cond.value, given_1] using gc
    obtain ⟨L⟩ := args
    match L, hs with
    | [w0, w1, w2], _ => exact ⟨w0, w1, w2, rfl⟩
  have hw := fun d (hd : d ∈ tables_1) => atoms_spec (ws := Jvm.Cond.code x code maxLocals ret :: tables_1) hat d (List.mem_cons_of_mem _ hd)
  have hfit : Fit s := fun {y c} hc i hi => by
    obtain ⟨ha, rfl⟩ := Array.getElem?_eq_some_iff.mp hc
    have q := List.all_eq_true.mp ((Array.all_eq_true_iff_forall_mem.mp hF) _ (Array.getElem_mem ha)) i (List.mem_range.mpr hi)
    simpa [Array.getElem?_eq_getElem hi] using q
  obtain ⟨i0, ei0⟩ := is_v a0
  obtain rfl : w0 = (.int i0) := Option.some.inj ei0
  obtain ⟨i1, ei1⟩ := is_v a1
  obtain rfl : w1 = (.int i1) := Option.some.inj ei1
  obtain ⟨i2, ei2⟩ := is_v g2
  obtain rfl : w2 = (.int i2) := Option.some.inj ei2
  obtain ⟨n, o, h1, h2, h3, _, L, rfl, ⟨rfl, N⟩, hq⟩ := rmL l s _ hw i0 i1 i2 s.heap s.heap.size (Nat.le_refl _) p e ha hc hk s m _ below hf ((Spec.applies_iff_loose hf).mp happ).1 ⟨rfl, State.Warmed39.refl s, rfl⟩ trivial
  refine ⟨n, _, h1, h2, h3, hpost _ _ _ _ _ _ ⟨Cond.after_iff.mpr rfl, Cond.after_iff.mpr (eq_i res_at (Term.int_eval (1)) rfl), trivial⟩ ⟨hq.1, hq.2.1, (hq.2.2.sift fun y hy => Or.inr (N y hy)).mono (by decide) (by decide)⟩⟩
theorem main_1_1 : Claimed_1_1 := comes_1 fun _ _ _ _ _ _ h hF => ⟨h.1, hF⟩
theorem main_1_2 : Claimed_1_2 := comes_1 fun _ _ _ _ _ _ h hF => ⟨h.2.1, hF⟩
end Jvm.Pilot.@@N@@
namespace Jvm.Pilot.@@N@@
open Jvm Jvm.ClassFile Sem Op Lib Jvm.Free Jvm.Stand Jvm.Pilot.@@N@@.Jvm.D
/-! MADE BY PROGRAM (witnessworld.py) out of the Statement's table words and the real class files: 13 classes; the members and pool entries that the words name. The judged class is class 1, her method 1. -/
namespace start1
open Jvm.ClassFile
def u (s : String) : CpInfo := .utf8 (stringToUtf16 s)
/-- a pool by its gaps: so many unusable entries, then the entry; so many at the end -/
def gap : Nat → List CpInfo → List CpInfo
  | 0, r => r
  | n + 1, r => .unusable :: gap n r
def poolList (es : List (Nat × CpInfo)) (last : Nat) : List CpInfo := es.foldr (fun e r => gap e.1 (e.2 :: r)) (gap last [])
def pool (es : List (Nat × CpInfo)) (last : Nat) : Array CpInfo := ⟨poolList es last⟩
def fileOf (pool : Array CpInfo) (this : Nat) (attrs : Array Attribute := #[]) (ms : Array MethodInfo := #[]) (fl : Nat := 33) (sup : Nat := 0) (ifs : Array Nat := #[]) (fds : Array FieldInfo := #[]) : ClassFile where
  minorVersion := 0
  majorVersion := 65
  constantPool := pool
  accessFlags := fl
  thisClass := this
  superClass := sup
  interfaces := ifs
  fields := fds
  methods := ms
  attributes := attrs
def plain (name : String) (sup : Option ClassId) : Class where
  name := name
  kind := .ordinary
  loader := none
  accessFlags := 33
  super := sup
  interfaces := #[]
  cf := none
  fields := #[]
  methods := #[]
  instanceTypes := #[]
  staticTypes := #[]
  resolved := #[]
  callSites := []
  init := .initialized
  statics := none
  mirror := none

def pool0 : Array CpInfo := pool [(5, u "<init>"), (0, u "()V"), (1, .class_ 10), (1, u "java/lang/Object")] 113

def k0c0 : Code := { maxStack := 0, maxLocals := 1, code := object_method_1_code, exceptionTable := #[], attributes := #[] }
def k0m0 : Method := { name := "<init>", desc := "()V", sig := { parameters := [], returnType := none }, accessFlags := 1, code := some k0c0 }
/-- java/lang/Object -/
def k0 : Class := { plain "java/lang/Object" none with
  accessFlags := 33
  interfaces := #[]
  cf := some (fileOf pool0 8 #[] #[{ accessFlags := 1, nameIndex := 5, descriptorIndex := 6, attributes := #[] }] 33 0 #[] #[])
  fields := #[]
  methods := #[k0m0]
  instanceTypes := #[]
  staticTypes := #[]
  resolved := Array.replicate 124 none
  statics := none }

def pool1 : Array CpInfo := pool [(2, .class_ 4), (1, u "java/lang/Object"), (0, u "<init>"), (0, u "()V"), (0, .double 9218868437227405312), (1, .integer 65535), (0, .methodref 11 12), (0, .class_ 13), (0, .nameAndType 14 15), (0, u "com/example/footwise/footwise/bench/BenchUsesImpassablePinLaw"), (0, u "cost"), (0, u "(IDD)D"), (0, .methodref 11 17), (0, .nameAndType 18 19), (0, u "ofLength"), (0, u "(IIIIII)[I"), (0, .class_ 21), (0, u "com/example/footwise/footwise/search/Route"), (0, .methodref 20 23), (0, .nameAndType 5 24), (0, u "([I[ID)V"), (0, .methodref 11 26), (0, .nameAndType 27 28), (0, u "code"), (0, u "(II)I"), (0, .methodref 30 31), (0, .class_ 32), (0, .nameAndType 33 34), (0, u "com/example/footwise/footwise/bench/Bench"), (0, u "usesImpassable"), (0, u "(Lcom/example/footwise/footwise/search/Route;[D)Z"), (2, .double 4890909195324358656), (3, u "law"), (0, u "(III)Z")] 7

def k1m0 : Method := { name := "<init>", desc := "()V", sig := { parameters := [], returnType := none }, accessFlags := 2, code := none }
def k1c1 : Code := { maxStack := 8, maxLocals := 21, code := code, exceptionTable := #[], attributes := #[] }
def k1m1 : Method := { name := "law", desc := "(III)Z", sig := { parameters := [.int, .int, .int], returnType := some .boolean }, accessFlags := 9, code := some k1c1 }
def k1c2 : Code := { maxStack := 3, maxLocals := 2, code := method_3_code, exceptionTable := #[], attributes := #[] }
def k1m2 : Method := { name := "code", desc := "(II)I", sig := { parameters := [.int, .int], returnType := some .int }, accessFlags := 10, code := some k1c2 }
def k1c3 : Code := { maxStack := 2, maxLocals := 5, code := method_4_code, exceptionTable := #[], attributes := #[] }
def k1m3 : Method := { name := "cost", desc := "(IDD)D", sig := { parameters := [.int, .double, .double], returnType := some .double }, accessFlags := 10, code := some k1c3 }
def k1c4 : Code := { maxStack := 4, maxLocals := 6, code := method_5_code, exceptionTable := #[], attributes := #[] }
def k1m4 : Method := { name := "ofLength", desc := "(IIIIII)[I", sig := { parameters := [.int, .int, .int, .int, .int, .int], returnType := some (.array .int) }, accessFlags := 10, code := some k1c4 }
/-- com/example/footwise/footwise/bench/BenchUsesImpassablePinLaw -/
def k1 : Class := { plain "com/example/footwise/footwise/bench/BenchUsesImpassablePinLaw" (some 0) with
  accessFlags := 49
  interfaces := #[]
  cf := some (fileOf pool1 11 #[] #[{ accessFlags := 2, nameIndex := 5, descriptorIndex := 6, attributes := #[] }, { accessFlags := 9, nameIndex := 41, descriptorIndex := 42, attributes := #[] }, { accessFlags := 10, nameIndex := 27, descriptorIndex := 28, attributes := #[] }, { accessFlags := 10, nameIndex := 14, descriptorIndex := 15, attributes := #[] }, { accessFlags := 10, nameIndex := 18, descriptorIndex := 19, attributes := #[] }] 49 2 #[] #[])
  fields := #[]
  methods := #[k1m0, k1m1, k1m2, k1m3, k1m4]
  instanceTypes := #[]
  staticTypes := #[]
  resolved := Array.replicate 50 none
  statics := none }

def pool2 : Array CpInfo := pool [(1, .methodref 2 3), (0, .class_ 4), (0, .nameAndType 5 6), (0, u "java/lang/Object"), (0, u "<init>"), (0, u "()V"), (0, .class_ 8), (0, u "java/lang/Record")] 13

def k2c0 : Code := { maxStack := 1, maxLocals := 1, code := jdk_30_method_1_code, exceptionTable := #[], attributes := #[] }
def k2m0 : Method := { name := "<init>", desc := "()V", sig := { parameters := [], returnType := none }, accessFlags := 4, code := some k2c0 }
/-- java/lang/Record -/
def k2 : Class := { plain "java/lang/Record" (some 0) with
  accessFlags := 1057
  interfaces := #[]
  cf := some (fileOf pool2 7 #[] #[{ accessFlags := 4, nameIndex := 5, descriptorIndex := 6, attributes := #[] }] 1057 2 #[] #[])
  fields := #[]
  methods := #[k2m0]
  instanceTypes := #[]
  staticTypes := #[]
  resolved := Array.replicate 22 none
  statics := none }

def pool3 : Array CpInfo := pool [(1, .methodref 2 3), (0, .class_ 4), (0, .nameAndType 5 6), (0, u "java/lang/Record"), (0, u "<init>"), (0, u "()V"), (0, .fieldref 8 9), (0, .class_ 10), (0, .nameAndType 11 12), (0, u "com/example/footwise/footwise/search/Route"), (0, u "nodes"), (0, u "[I"), (0, .fieldref 8 14), (0, .nameAndType 15 12), (0, u "sections"), (0, .fieldref 8 17), (0, .nameAndType 18 19), (0, u "cost"), (0, u "D"), (2, u "([I[ID)V"), (2, u "()[I")] 74

def k3c0 : Code := { maxStack := 3, maxLocals := 5, code := prog_43_method_1_code, exceptionTable := #[], attributes := #[] }
def k3m0 : Method := { name := "<init>", desc := "([I[ID)V", sig := { parameters := [(.array .int), (.array .int), .double], returnType := none }, accessFlags := 1, code := some k3c0 }
def k3c1 : Code := { maxStack := 1, maxLocals := 1, code := prog_43_method_8_code, exceptionTable := #[], attributes := #[] }
def k3m1 : Method := { name := "sections", desc := "()[I", sig := { parameters := [], returnType := some (.array .int) }, accessFlags := 1, code := some k3c1 }
/-- com/example/footwise/footwise/search/Route -/
def k3 : Class := { plain "com/example/footwise/footwise/search/Route" (some 2) with
  accessFlags := 49
  interfaces := #[]
  cf := some (fileOf pool3 8 #[] #[{ accessFlags := 1, nameIndex := 5, descriptorIndex := 22, attributes := #[] }, { accessFlags := 1, nameIndex := 15, descriptorIndex := 25, attributes := #[] }] 49 2 #[] #[{ accessFlags := 18, nameIndex := 11, descriptorIndex := 12, attributes := #[] }, { accessFlags := 18, nameIndex := 15, descriptorIndex := 12, attributes := #[] }, { accessFlags := 18, nameIndex := 18, descriptorIndex := 19, attributes := #[] }])
  fields := #[{ name := "nodes", type := (.array .int), accessFlags := 18, slot := 0, constantValue := 0 }, { name := "sections", type := (.array .int), accessFlags := 18, slot := 1, constantValue := 0 }, { name := "cost", type := .double, accessFlags := 18, slot := 2, constantValue := 0 }]
  methods := #[k3m0, k3m1]
  instanceTypes := #[(.array .int), (.array .int), .double]
  staticTypes := #[]
  resolved := Array.replicate 100 none
  statics := none }

def pool4 : Array CpInfo := pool [(2, .class_ 4), (1, u "java/lang/Object"), (0, u "<init>"), (0, u "()V"), (1, .class_ 10), (1, u "com/example/footwise/footwise/bench/Bench"), (47, .class_ 59), (0, u "com/example/footwise/footwise/search/Route"), (2, u "usesImpassable"), (0, u "(Lcom/example/footwise/footwise/search/Route;[D)Z"), (1, .class_ 67), (1, u "com/example/footwise/footwise/bench/Bench$Result"), (59, .methodref 58 128), (0, .nameAndType 129 130), (0, u "sections"), (0, u "()[I"), (2, .double 9218868437227405312), (6, u "PERCENTILE"), (0, u "I")] 52

def k4m0 : Method := { name := "<init>", desc := "()V", sig := { parameters := [], returnType := none }, accessFlags := 2, code := none }
def k4c1 : Code := { maxStack := 4, maxLocals := 6, code := prog_1_method_5_code, exceptionTable := #[], attributes := #[] }
def k4m1 : Method := { name := "usesImpassable", desc := "(Lcom/example/footwise/footwise/search/Route;[D)Z", sig := { parameters := [(.object "com/example/footwise/footwise/search/Route"), (.array .double)], returnType := some .boolean }, accessFlags := 8, code := some k4c1 }
/-- com/example/footwise/footwise/bench/Bench -/
def k4 : Class := { plain "com/example/footwise/footwise/bench/Bench" (some 0) with
  accessFlags := 49
  interfaces := #[]
  cf := some (fileOf pool4 8 #[.nestMembers #[65]] #[{ accessFlags := 2, nameIndex := 5, descriptorIndex := 6, attributes := #[] }, { accessFlags := 8, nameIndex := 62, descriptorIndex := 63, attributes := #[] }] 49 2 #[] #[{ accessFlags := 26, nameIndex := 140, descriptorIndex := 141, attributes := #[] }])
  fields := #[{ name := "PERCENTILE", type := .int, accessFlags := 26, slot := 0, constantValue := 0 }]
  methods := #[k4m0, k4m1]
  instanceTypes := #[]
  staticTypes := #[.int]
  resolved := Array.replicate 194 none
  statics := none }

def pool5 : Array CpInfo := pool [(1, u "java/lang/Cloneable"), (0, .class_ 1), (0, u "java/lang/Object"), (0, .class_ 3)] 3

/-- java/lang/Cloneable -/
def k5 : Class := { plain "java/lang/Cloneable" (some 0) with
  accessFlags := 1537
  interfaces := #[]
  cf := some (fileOf pool5 2 #[] #[] 1537 4 #[] #[])
  fields := #[]
  methods := #[]
  instanceTypes := #[]
  staticTypes := #[]
  resolved := Array.replicate 8 none
  statics := none }

def pool6 : Array CpInfo := pool [(1, u "java/io/Serializable"), (0, .class_ 1), (0, u "java/lang/Object"), (0, .class_ 3)] 3

/-- java/io/Serializable -/
def k6 : Class := { plain "java/io/Serializable" (some 0) with
  accessFlags := 1537
  interfaces := #[]
  cf := some (fileOf pool6 2 #[] #[] 1537 4 #[] #[])
  fields := #[]
  methods := #[]
  instanceTypes := #[]
  staticTypes := #[]
  resolved := Array.replicate 8 none
  statics := none }

/-- the primitive byte -/
def k7 : Class := { plain "byte" none with kind := .primitive 'B', accessFlags := 0x411 }
/-- [B -/
def k8 : Class := { plain "[B" (some 0) with kind := .array 7 .byte, interfaces := #[5, 6], accessFlags := 1041 }

/-- the primitive double -/
def k9 : Class := { plain "double" none with kind := .primitive 'D', accessFlags := 0x411 }
/-- [D -/
def k10 : Class := { plain "[D" (some 0) with kind := .array 9 .double, interfaces := #[5, 6], accessFlags := 1041 }

/-- the primitive int -/
def k11 : Class := { plain "int" none with kind := .primitive 'I', accessFlags := 0x411 }
/-- [I -/
def k12 : Class := { plain "[I" (some 0) with kind := .array 11 .int, interfaces := #[5, 6], accessFlags := 1041 }

def heap : Heap := #[]
def classes : Array Class := #[k0, k1, k2, k3, k4, k5, k6, k7, k8, k9, k10, k11, k12]
def interned : List (Array UInt16 × Addr) := []
def slotsUsed : Nat := 0
def theMethod : MethodId := ⟨1, 1⟩
def args0 : Array Value := #[.int 27, .int 3, .int 5]
def aboutOver (below : List Frame) : State where
  vm := { classes := classes, interned := interned.toArray }
  heap := heap
  slotsUsed := slotsUsed
  threads := #[{ frames := .invoking theMethod args0 :: below }]
def below0 : List Frame := [.native { method := ⟨0, 0⟩, args := #[] }]
def about1 : State := aboutOver below0
def p0 : Program := .bare "" "" ""
def e0 : Env := launch0.env 0 0 0
theorem w_frames : about1.frames = Frame.invoking theMethod args0 :: below0 := rfl
set_option maxRecDepth 65536 in
theorem w_args : argsFit about1.vm theMethod args0 = true := by decide +kernel
set_option maxRecDepth 65536 in
theorem w_heap : heapFits about1 = true := by decide +kernel
set_option maxRecDepth 65536 in
theorem w_runnable : about1.curStatus? = some .runnable := by decide +kernel
set_option maxRecDepth 65536 in
theorem w_alone : about1.alone = true := by decide +kernel
set_option maxRecDepth 65536 in
theorem w_named : about1.methodNamed? x = some theMethod := by decide +kernel
set_option maxRecDepth 65536 in
theorem w_hears : about1.hears theMethod below0 = true := by decide +kernel
set_option maxRecDepth 65536 in
theorem w_ripe : about1.ripe theMethod args0 below0 = true := by decide +kernel
theorem w_running : about1.status = .running := rfl
set_option maxRecDepth 65536 in
theorem w_room : about1.hasRoom e0.platform room_1 = true :=
  launch0.hasRoom_least _ room_1 (by decide +kernel) (by decide +kernel) (by decide +kernel) (by decide +kernel) (by decide +kernel) (by decide +kernel)
theorem allAtoms_all (ts : List Jvm.Cond) (a : Array Jvm.Value) (st : Jvm.State) : (allAtoms ts).before a st = ts.all (fun c => c.before a st) := by
  induction ts with
  | nil => rfl
  | cons c t ih =>
    show (Jvm.Cond.and c (allAtoms t)).before a st = _
    rw [Jvm.Cond.before_and, ih, List.all_cons]
def words1 : List Jvm.Cond := Jvm.Cond.code x code maxLocals ret :: tables_1
/-- a 'code' word, met by the world's own term for the bytes: nothing is compared byte by byte -/
theorem code_word {y : MethodName} {bytes : ByteArray} {mx : Nat} {rt : Option FieldType} {a : Array Value} {s : State} {m : MethodId} {meth : Method} {c : Code} (h1 : s.methodNamed? y = some m) (h2 : s.vm.method? m = some meth) (h3 : meth.code = some c) (h4 : c.code = bytes)
    (h5 : (c.maxLocals == mx && c.exceptionTable.isEmpty && decide (c.maxStack ≤ mostOperands) && decide (meth.sig.returnType = rt) && !meth.locks && decide (parseMethodDescriptor y.desc = some meth.sig)) = true) : (Jvm.Cond.code y bytes mx rt).before a s = true := by
  simp only [Bool.and_eq_true, beq_iff_eq, Bool.not_eq_true', decide_eq_true_eq] at h5
  obtain ⟨⟨⟨⟨⟨g1, g2⟩, g3⟩, g4⟩, g5⟩, g6⟩ := h5
  simp [Cond.before, Cond.holds, Cond.value, h1, h2, h3, h4, g1, g2, g3, g4, g5, g6]
def isCode : Jvm.Cond → Bool
  | .code _ _ _ _ => true
  | _ => false
theorem all_split {L : List Jvm.Cond} {P : Jvm.Cond → Bool} (h1 : L.all (fun c => isCode c || P c) = true) (h2 : ∀ c ∈ L.filter isCode, P c = true) : L.all P = true := by
  refine List.all_eq_true.mpr fun c hc => ?_
  have h := List.all_eq_true.mp h1 c hc
  rcases Bool.eq_false_or_eq_true (isCode c) with hi | hi
  · exact h2 c (List.mem_filter.mpr ⟨hc, hi⟩)
  · simpa [hi] using h
set_option maxRecDepth 65536 in
theorem w_c0 : (Jvm.Cond.code x code maxLocals ret).before args0 about1 = true := code_word (m := ⟨1, 1⟩) (meth := k1m1) (c := k1c1) (by decide +kernel) rfl rfl rfl (by decide +kernel)
set_option maxRecDepth 65536 in
theorem w_c1 : (Jvm.Cond.code ({ cls := "com/example/footwise/footwise/bench/BenchUsesImpassablePinLaw", name := "cost", desc := "(IDD)D" } : Jvm.MethodName) method_4_code (5 : Nat) (Option.some Jvm.ClassFile.FieldType.double)).before args0 about1 = true := code_word (m := ⟨1, 3⟩) (meth := k1m3) (c := k1c3) (by decide +kernel) rfl rfl rfl (by decide +kernel)
set_option maxRecDepth 65536 in
theorem w_c2 : (Jvm.Cond.code ({ cls := "com/example/footwise/footwise/bench/BenchUsesImpassablePinLaw", name := "ofLength", desc := "(IIIIII)[I" } : Jvm.MethodName) method_5_code (6 : Nat) (Option.some (Jvm.ClassFile.FieldType.array Jvm.ClassFile.FieldType.int))).before args0 about1 = true := code_word (m := ⟨1, 4⟩) (meth := k1m4) (c := k1c4) (by decide +kernel) rfl rfl rfl (by decide +kernel)
set_option maxRecDepth 65536 in
theorem w_c3 : (Jvm.Cond.code ({ cls := "com/example/footwise/footwise/search/Route", name := "<init>", desc := "([I[ID)V" } : Jvm.MethodName) prog_43_method_1_code (5 : Nat) (Option.none : Option Jvm.ClassFile.FieldType)).before args0 about1 = true := code_word (m := ⟨3, 0⟩) (meth := k3m0) (c := k3c0) (by decide +kernel) rfl rfl rfl (by decide +kernel)
set_option maxRecDepth 65536 in
theorem w_c4 : (Jvm.Cond.code ({ cls := "java/lang/Record", name := "<init>", desc := "()V" } : Jvm.MethodName) jdk_30_method_1_code (1 : Nat) (Option.none : Option Jvm.ClassFile.FieldType)).before args0 about1 = true := code_word (m := ⟨2, 0⟩) (meth := k2m0) (c := k2c0) (by decide +kernel) rfl rfl rfl (by decide +kernel)
set_option maxRecDepth 65536 in
theorem w_c5 : (Jvm.Cond.code ({ cls := "java/lang/Object", name := "<init>", desc := "()V" } : Jvm.MethodName) object_method_1_code (1 : Nat) (Option.none : Option Jvm.ClassFile.FieldType)).before args0 about1 = true := code_word (m := ⟨0, 0⟩) (meth := k0m0) (c := k0c0) (by decide +kernel) rfl rfl rfl (by decide +kernel)
set_option maxRecDepth 65536 in
theorem w_c6 : (Jvm.Cond.code ({ cls := "com/example/footwise/footwise/bench/BenchUsesImpassablePinLaw", name := "code", desc := "(II)I" } : Jvm.MethodName) method_3_code (2 : Nat) (Option.some Jvm.ClassFile.FieldType.int)).before args0 about1 = true := code_word (m := ⟨1, 2⟩) (meth := k1m2) (c := k1c2) (by decide +kernel) rfl rfl rfl (by decide +kernel)
set_option maxRecDepth 65536 in
theorem w_c7 : (Jvm.Cond.code ({ cls := "com/example/footwise/footwise/bench/Bench", name := "usesImpassable", desc := "(Lcom/example/footwise/footwise/search/Route;[D)Z" } : Jvm.MethodName) prog_1_method_5_code (6 : Nat) (Option.some Jvm.ClassFile.FieldType.boolean)).before args0 about1 = true := code_word (m := ⟨4, 1⟩) (meth := k4m1) (c := k4c1) (by decide +kernel) rfl rfl rfl (by decide +kernel)
set_option maxRecDepth 65536 in
theorem w_c8 : (Jvm.Cond.code ({ cls := "com/example/footwise/footwise/search/Route", name := "sections", desc := "()[I" } : Jvm.MethodName) prog_43_method_8_code (1 : Nat) (Option.some (Jvm.ClassFile.FieldType.array Jvm.ClassFile.FieldType.int))).before args0 about1 = true := code_word (m := ⟨3, 1⟩) (meth := k3m1) (c := k3c1) (by decide +kernel) rfl rfl rfl (by decide +kernel)
def codes1 : List Jvm.Cond := [Jvm.Cond.code x code maxLocals ret, Jvm.Cond.code ({ cls := "com/example/footwise/footwise/bench/BenchUsesImpassablePinLaw", name := "cost", desc := "(IDD)D" } : Jvm.MethodName) method_4_code (5 : Nat) (Option.some Jvm.ClassFile.FieldType.double), Jvm.Cond.code ({ cls := "com/example/footwise/footwise/bench/BenchUsesImpassablePinLaw", name := "ofLength", desc := "(IIIIII)[I" } : Jvm.MethodName) method_5_code (6 : Nat) (Option.some (Jvm.ClassFile.FieldType.array Jvm.ClassFile.FieldType.int)), Jvm.Cond.code ({ cls := "com/example/footwise/footwise/search/Route", name := "<init>", desc := "([I[ID)V" } : Jvm.MethodName) prog_43_method_1_code (5 : Nat) (Option.none : Option Jvm.ClassFile.FieldType), Jvm.Cond.code ({ cls := "java/lang/Record", name := "<init>", desc := "()V" } : Jvm.MethodName) jdk_30_method_1_code (1 : Nat) (Option.none : Option Jvm.ClassFile.FieldType), Jvm.Cond.code ({ cls := "java/lang/Object", name := "<init>", desc := "()V" } : Jvm.MethodName) object_method_1_code (1 : Nat) (Option.none : Option Jvm.ClassFile.FieldType), Jvm.Cond.code ({ cls := "com/example/footwise/footwise/bench/BenchUsesImpassablePinLaw", name := "code", desc := "(II)I" } : Jvm.MethodName) method_3_code (2 : Nat) (Option.some Jvm.ClassFile.FieldType.int), Jvm.Cond.code ({ cls := "com/example/footwise/footwise/bench/Bench", name := "usesImpassable", desc := "(Lcom/example/footwise/footwise/search/Route;[D)Z" } : Jvm.MethodName) prog_1_method_5_code (6 : Nat) (Option.some Jvm.ClassFile.FieldType.boolean), Jvm.Cond.code ({ cls := "com/example/footwise/footwise/search/Route", name := "sections", desc := "()[I" } : Jvm.MethodName) prog_43_method_8_code (1 : Nat) (Option.some (Jvm.ClassFile.FieldType.array Jvm.ClassFile.FieldType.int))]
set_option maxRecDepth 65536 in
theorem codes_eq : words1.filter isCode = codes1 := rfl
theorem w_codes : ∀ c ∈ words1.filter isCode, c.before args0 about1 = true := by
  rw [codes_eq]
  intro c hc
  simp only [codes1, List.mem_cons, List.not_mem_nil, or_false] at hc
  rcases hc with rfl | rfl | rfl | rfl | rfl | rfl | rfl | rfl | rfl
  · exact w_c0
  · exact w_c1
  · exact w_c2
  · exact w_c3
  · exact w_c4
  · exact w_c5
  · exact w_c6
  · exact w_c7
  · exact w_c8
set_option maxRecDepth 65536 in
theorem w_t1 : (words1.take 24).all (fun c => isCode c || c.before args0 about1) = true := by decide +kernel
set_option maxRecDepth 65536 in
theorem w_t2 : (words1.drop 24).all (fun c => isCode c || c.before args0 about1) = true := by decide +kernel
theorem w_tables : (allAtoms (Jvm.Cond.code x code maxLocals ret :: tables_1)).before args0 about1 = true := by
  rw [allAtoms_all]
  show words1.all (fun c => c.before args0 about1) = true
  refine all_split ?_ w_codes
  rw [← List.take_append_drop 24 words1, List.all_append, w_t1, w_t2]
  rfl
set_option maxRecDepth 65536 in
theorem w_case : (Jvm.Cond.and given_1 narrow_1).before args0 about1 = true := by decide +kernel
theorem w_applies : (headSpec (Jvm.Cond.code x code maxLocals ret :: tables_1) room_1).applies x e0.platform about1 = true :=
  (Spec.applies_iff w_frames).mpr ⟨w_running, w_runnable, w_alone, w_named, w_hears, w_ripe, w_room, w_tables⟩
theorem atStart : AtStart classFile x code maxLocals ret World_1 tables_1 room_1 Calls_1 rest_1 Pre_1 launch0 p0 e0 about1 theMethod args0 below0 :=
  ⟨lists_1, trivial, launch0.admits_env _ _ _, launch0.least_env, fairChoices_fair.cas, fairChoices_fair.clock, w_frames, w_args, w_heap, w_applies, trivial, trivial, w_case⟩
end start1
theorem witness_1 : WitnessClaimed_1 := ⟨start1.p0, start1.e0, start1.about1, start1.theMethod, start1.args0, start1.below0, start1.atStart⟩
end Jvm.Pilot.@@N@@
