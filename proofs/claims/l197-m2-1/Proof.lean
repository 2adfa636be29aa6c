import JvmDerived
import JvmDerived.Pilot.@@N@@Statement
import JvmDerived.Pilot.@@N@@Code
set_option linter.unusedVariables false
set_option linter.unusedSimpArgs false
namespace Jvm.OwnK
open Sem ClassFile Op Lib Jvm.Stand Jvm.Free Jvm.LawKit Jvm.RoadKit
/-- from cur the body's run returns; Q holds of what it returns, the heap then, the places written; F of the end -/
def EndG (p : Program) (e : Env) (below : List Frame) (F : Outcome → State → List Loc → Prop) (Q : Option Value → Heap → List Loc → Prop) (cur : State) : Prop :=
  ∃ s₂ o, Steps p.tables e below cur s₂ ∧ s₂.status = .running ∧ Ended s₂ below o ∧ ∃ v L, o = .returned v ∧ Q v s₂.heap L ∧ F o s₂ L
abbrev End (p : Program) (e : Env) (below : List Frame) (s : State) (Q : Option Value → Heap → List Loc → Prop) (cl sl : Nat) (cur : State) : Prop := EndG p e below (fun o t L => FrameEnd s o t L cl sl) Q cur
/-- a body's contract: entered with the arguments 'as' at the heap h (tables warmer than Z's) it returns, and Q holds -/
def Con (l : Launch) (Z : State) (y : MethodName) (bytes : ByteArray) (maxL : Nat) (ret : Option FieldType) (ws : List Cond) (rm : Room) (as : Array Value) (h : Heap) (Q : Option Value → Heap → List Loc → Prop) : Prop :=
  MetFree l y (head1 (Cond.code y bytes maxL ret :: ws) rm) (fun a U => a = as ∧ Z.Warmed39 U.vm ∧ U.heap = h) (fun _ _ _ _ _ => True) (fun _ U o U' => ∃ v L, o = .returned v ∧ Q v U'.heap L ∧ FrameEnd U o U' L rm.cells rm.slots)
theorem retI_eq {a b : Int32} (h : b = a) : (some (Value.int a) : Option Value) = some (.int b) := by rw [h]
theorem retJ_eq {a b : Int64} (h : b = a) : (some (Value.long a) : Option Value) = some (.long b) := by rw [h]
theorem retD_eq {a b : UInt64} (h : b = a) : (some (Value.double a) : Option Value) = some (.double b) := by rw [h]
section Steps
variable {p : Program} {l : Launch} {e : Env} {R : Room} {s : State} {m : MethodId} {args : Array Value} {below : List Frame} {meth : Method} {c : Code} {T : State} {locs : List Loc} {cells slots : Nat} {Fe : Outcome → State → List Loc → Prop} {Q : Option Value → Heap → List Loc → Prop} {cl sl : Nat} {pc q : Nat} {Ls : Array Slot} {rest : List Value}
theorem EndG.st {cur nxt : State} (k : EndG p e below Fe Q nxt) (st : ∀ t, Steps p.tables e below nxt t → Steps p.tables e below cur t) : EndG p e below Fe Q cur := by
  obtain ⟨s₂, o, h1, r⟩ := k; exact ⟨s₂, o, st _ h1, r⟩
theorem EndG.tr {cur nxt : State} (k : EndG p e below Fe Q nxt) (st : Steps p.tables e below cur nxt) : EndG p e below Fe Q cur := by
  obtain ⟨s₂, o, h1, r⟩ := k; exact ⟨s₂, o, st.trans h1, r⟩
theorem End.cast {g g' : JFrame} (k : EndG p e below Fe Q (T.setTop g')) (h : g = g') : EndG p e below Fe Q (T.setTop g) := h ▸ k
theorem Con.of {Z : State} {y : MethodName} {bytes : ByteArray} {maxL : Nat} {ret : Option FieldType} {ws : List Cond} {rm : Room} {as : Array Value} {h : Heap} (hpl : plainFor y = true)
    (body : ∀ (p : Program) (e : Env) (s : State) (m : MethodId) (below : List Frame) (meth : Method) (c : Code) (s₁ : State), Stand p l e rm s m as below meth c s₁ [] 0 0 → p.tables.exec = Jvm.exec → c.code = bytes → c.maxLocals = maxL → s.vm.findClass y.cls = some m.cls → meth.name = y.name → meth.sig.returnType = ret → meth.locks = false → Z.Warmed39 s.vm → s₁.heap = h → End p e below s Q rm.cells rm.slots (s₁.setTop (entryFrame m as maxL))) :
    Con l Z y bytes maxL ret ws rm as h Q := by
  refine MetFree.of_bodySF hpl hisR ?_
  intro p e s m args below meth c s₁ Bd hml hP hK
  obtain ⟨rfl, hZ, hh⟩ := hP
  obtain ⟨s₂, o, h1, h2, h3, v, L, h4, h5, h6⟩ := body p e s m below meth c s₁ (Stand.of_body Bd) Bd.exec Bd.bytes hml (findClass_of_methodNamed Bd.named) (name_of_methodNamed Bd.named Bd.method).1 Bd.returns Bd.notSynchronized hZ (by rw [← hh, Bd.state]; rfl)
  exact ⟨s₂, o, h1, h2, h3, v, L, h4, h5, h6⟩
theorem Con.mono {Z : State} {y : MethodName} {bytes : ByteArray} {maxL : Nat} {ret : Option FieldType} {ws : List Cond} {rm : Room} {as : Array Value} {h : Heap} {Q' : Option Value → Heap → List Loc → Prop} (k : Con l Z y bytes maxL ret ws rm as h Q) (hQ : ∀ v hh L, Q v hh L → Q' v hh L) : Con l Z y bytes maxL ret ws rm as h Q' := by
  intro p e ha hc hk s m args below hf happ hP hK
  obtain ⟨n, o, h1, h2, h3, v, L, h4, h5, h6⟩ := k p e ha hc hk s m args below hf happ hP hK
  exact ⟨n, o, h1, h2, h3, v, L, h4, hQ _ _ _ h5, h6⟩
theorem k_iloadN (X : Stand p l e R s m args below meth c T locs cells slots) (hx : p.tables.exec = Jvm.exec) {j : Fin 4} {v : Int32} (hq : pc + 1 = q) (hd : decode c.code pc = .ok (.iload_n j, 1)) (hl : Ls[j.val]? = some (.val (.int v))) (k : EndG p e below Fe Q (T.setTop (mkF m q Ls (.int v :: rest)))) : EndG p e below Fe Q (T.setTop (mkF m pc Ls (rest))) := by
  subst hq; exact k.st fun t w => XS.iloadN X.here hx rfl hd hl w
theorem k_iload (X : Stand p l e R s m args below meth c T locs cells slots) (hx : p.tables.exec = Jvm.exec) {j : Nat} {v : Int32} (hq : pc + 2 = q) (hd : decode c.code pc = .ok (.iload j, 2)) (hl : Ls[j]? = some (.val (.int v))) (k : EndG p e below Fe Q (T.setTop (mkF m q Ls (.int v :: rest)))) : EndG p e below Fe Q (T.setTop (mkF m pc Ls (rest))) := by
  subst hq; exact k.st fun t w => XS.iload X.here hx rfl hd hl w
theorem k_istore (X : Stand p l e R s m args below meth c T locs cells slots) (hx : p.tables.exec = Jvm.exec) {j : Nat} {v : Int32} {L' : Array Slot} (hq : pc + 2 = q) (hd : decode c.code pc = .ok (.istore j, 2)) (hl : storeLocals Ls j (.int v) = some L') (k : EndG p e below Fe Q (T.setTop (mkF m q L' (rest)))) : EndG p e below Fe Q (T.setTop (mkF m pc Ls (.int v :: rest))) := by
  subst hq; exact k.st fun t w => XS.istore X.here hx rfl hd rfl hl w
theorem k_dloadN (X : Stand p l e R s m args below meth c T locs cells slots) (hx : p.tables.exec = Jvm.exec) {j : Fin 4} {v : UInt64} (hq : pc + 1 = q) (hd : decode c.code pc = .ok (.dload_n j, 1)) (hl : Ls[j.val]? = some (.val (.double v))) (k : EndG p e below Fe Q (T.setTop (mkF m q Ls (.double v :: rest)))) : EndG p e below Fe Q (T.setTop (mkF m pc Ls (rest))) := by
  subst hq; exact k.st fun t w => XS.dloadN X.here hx rfl hd hl w
theorem k_dload (X : Stand p l e R s m args below meth c T locs cells slots) (hx : p.tables.exec = Jvm.exec) {j : Nat} {v : UInt64} (hq : pc + 2 = q) (hd : decode c.code pc = .ok (.dload j, 2)) (hl : Ls[j]? = some (.val (.double v))) (k : EndG p e below Fe Q (T.setTop (mkF m q Ls (.double v :: rest)))) : EndG p e below Fe Q (T.setTop (mkF m pc Ls (rest))) := by
  subst hq; exact k.st fun t w => XS.dload X.here hx rfl hd hl w
theorem k_dstoreN (X : Stand p l e R s m args below meth c T locs cells slots) (hx : p.tables.exec = Jvm.exec) {j : Fin 4} {v : UInt64} {L' : Array Slot} (hq : pc + 1 = q) (hd : decode c.code pc = .ok (.dstore_n j, 1)) (hl : storeLocals Ls j.val (.double v) = some L') (k : EndG p e below Fe Q (T.setTop (mkF m q L' (rest)))) : EndG p e below Fe Q (T.setTop (mkF m pc Ls (.double v :: rest))) := by
  subst hq; exact k.st fun t w => XS.dstoreN X.here hx rfl hd rfl hl w
theorem k_dstore (X : Stand p l e R s m args below meth c T locs cells slots) (hx : p.tables.exec = Jvm.exec) {j : Nat} {v : UInt64} {L' : Array Slot} (hq : pc + 2 = q) (hd : decode c.code pc = .ok (.dstore j, 2)) (hl : storeLocals Ls j (.double v) = some L') (k : EndG p e below Fe Q (T.setTop (mkF m q L' (rest)))) : EndG p e below Fe Q (T.setTop (mkF m pc Ls (.double v :: rest))) := by
  subst hq; exact k.st fun t w => XS.dstore X.here hx rfl hd rfl hl w
theorem k_aloadN (X : Stand p l e R s m args below meth c T locs cells slots) (hx : p.tables.exec = Jvm.exec) {j : Fin 4} {v : Value} (hq : pc + 1 = q) (hd : decode c.code pc = .ok (.aload_n j, 1)) (hl : Ls[j.val]? = some (.val v)) (hv : v.isRef = true) (k : EndG p e below Fe Q (T.setTop (mkF m q Ls (v :: rest)))) : EndG p e below Fe Q (T.setTop (mkF m pc Ls (rest))) := by
  subst hq; exact k.st fun t w => XS.aloadN X.here hx rfl hd hl hv w
theorem k_aload (X : Stand p l e R s m args below meth c T locs cells slots) (hx : p.tables.exec = Jvm.exec) {j : Nat} {v : Value} (hq : pc + 2 = q) (hd : decode c.code pc = .ok (.aload j, 2)) (hl : Ls[j]? = some (.val v)) (hv : v.isRef = true) (k : EndG p e below Fe Q (T.setTop (mkF m q Ls (v :: rest)))) : EndG p e below Fe Q (T.setTop (mkF m pc Ls (rest))) := by
  subst hq; exact k.st fun t w => XS.aload X.here hx rfl hd hl hv w
theorem k_astore (X : Stand p l e R s m args below meth c T locs cells slots) (hx : p.tables.exec = Jvm.exec) {j : Nat} {v : Value} {L' : Array Slot} (hq : pc + 2 = q) (hd : decode c.code pc = .ok (.astore j, 2)) (hv : v.isRef = true) (hl : storeLocals Ls j v = some L') (k : EndG p e below Fe Q (T.setTop (mkF m q L' (rest)))) : EndG p e below Fe Q (T.setTop (mkF m pc Ls (v :: rest))) := by
  subst hq; exact k.st fun t w => XS.astore X.here hx rfl hd rfl hv hl w
theorem k_iconst (X : Stand p l e R s m args below meth c T locs cells slots) (hx : p.tables.exec = Jvm.exec) {i : Int} {v : Int32} (hv : Int32.ofInt i = v) (hq : pc + 1 = q) (hd : decode c.code pc = .ok (.iconst i, 1)) (k : EndG p e below Fe Q (T.setTop (mkF m q Ls (.int v :: rest)))) : EndG p e below Fe Q (T.setTop (mkF m pc Ls (rest))) := by
  subst hq hv; exact k.st fun t w => XS.iconst X.here hx rfl hd w
theorem k_bipush (X : Stand p l e R s m args below meth c T locs cells slots) (hx : p.tables.exec = Jvm.exec) {i : Int} {v : Int32} (hv : (Int8.ofInt i).toInt32 = v) (hq : pc + 2 = q) (hd : decode c.code pc = .ok (.bipush i, 2)) (k : EndG p e below Fe Q (T.setTop (mkF m q Ls (.int v :: rest)))) : EndG p e below Fe Q (T.setTop (mkF m pc Ls (rest))) := by
  subst hq hv; exact k.st fun t w => XS.bipush X.here hx rfl hd w
theorem k_iadd (X : Stand p l e R s m args below meth c T locs cells slots) (hx : p.tables.exec = Jvm.exec) {x y : Int32} (hq : pc + 1 = q) (hd : decode c.code pc = .ok (.iadd, 1)) (k : EndG p e below Fe Q (T.setTop (mkF m q Ls (.int (x + y) :: rest)))) : EndG p e below Fe Q (T.setTop (mkF m pc Ls (.int y :: .int x :: rest))) := by
  subst hq; exact k.st fun t w => XS.iadd X.here hx rfl hd rfl w
theorem k_iand (X : Stand p l e R s m args below meth c T locs cells slots) (hx : p.tables.exec = Jvm.exec) {x y : Int32} (hq : pc + 1 = q) (hd : decode c.code pc = .ok (.iand, 1)) (k : EndG p e below Fe Q (T.setTop (mkF m q Ls (.int (x &&& y) :: rest)))) : EndG p e below Fe Q (T.setTop (mkF m pc Ls (.int y :: .int x :: rest))) := by
  subst hq; exact k.st fun t w => XS.iand X.here hx rfl hd rfl w
theorem k_ixor (X : Stand p l e R s m args below meth c T locs cells slots) (hx : p.tables.exec = Jvm.exec) {x y : Int32} (hq : pc + 1 = q) (hd : decode c.code pc = .ok (.ixor, 1)) (k : EndG p e below Fe Q (T.setTop (mkF m q Ls (.int (x ^^^ y) :: rest)))) : EndG p e below Fe Q (T.setTop (mkF m pc Ls (.int y :: .int x :: rest))) := by
  subst hq; exact k.st fun t w => XS.ixor X.here hx rfl hd rfl w
theorem k_ishr (X : Stand p l e R s m args below meth c T locs cells slots) (hx : p.tables.exec = Jvm.exec) {x y : Int32} (hq : pc + 1 = q) (hd : decode c.code pc = .ok (.ishr, 1)) (k : EndG p e below Fe Q (T.setTop (mkF m q Ls (.int (x >>> (y &&& 31)) :: rest)))) : EndG p e below Fe Q (T.setTop (mkF m pc Ls (.int y :: .int x :: rest))) := by
  subst hq; exact k.st fun t w => XS.ishr X.here hx rfl hd rfl w
theorem k_iushr (X : Stand p l e R s m args below meth c T locs cells slots) (hx : p.tables.exec = Jvm.exec) {x y : Int32} (hq : pc + 1 = q) (hd : decode c.code pc = .ok (.iushr, 1)) (k : EndG p e below Fe Q (T.setTop (mkF m q Ls (.int ((x.toUInt32 >>> (y &&& 31).toUInt32).toInt32) :: rest)))) : EndG p e below Fe Q (T.setTop (mkF m pc Ls (.int y :: .int x :: rest))) := by
  subst hq; exact k.st fun t w => XS.iushr X.here hx rfl hd rfl w
theorem k_i2d (X : Stand p l e R s m args below meth c T locs cells slots) (hx : p.tables.exec = Jvm.exec) {x : Int32} (hq : pc + 1 = q) (hd : decode c.code pc = .ok (.i2d, 1)) (k : EndG p e below Fe Q (T.setTop (mkF m q Ls (.double (FP.i2d x) :: rest)))) : EndG p e below Fe Q (T.setTop (mkF m pc Ls (.int x :: rest))) := by
  subst hq; exact k.st fun t w => XS.i2dS X.here hx rfl hd rfl rfl w
theorem k_dadd (X : Stand p l e R s m args below meth c T locs cells slots) (hx : p.tables.exec = Jvm.exec) {x y v : UInt64} (hq : pc + 1 = q) (hd : decode c.code pc = .ok (.dadd, 1)) (hn : Jvm.Free.Fl.NoNaN64 (FP.dadd x y)) (hv : FP.dadd x y = v) (k : EndG p e below Fe Q (T.setTop (mkF m q Ls (.double v :: rest)))) : EndG p e below Fe Q (T.setTop (mkF m pc Ls (.double y :: .double x :: rest))) := by
  subst hq; exact k.st fun t w => XS.daddS X.here hx rfl hd rfl hn hv w
theorem k_dcmp (X : Stand p l e R s m args below meth c T locs cells slots) (hx : p.tables.exec = Jvm.exec) {o : CmpOp} {x y : UInt64} {v : Int32} (hq : pc + 1 = q) (hd : decode c.code pc = .ok (.dcmp o, 1)) (hv : cmpValue (FP.dcmp x y) o = v) (k : EndG p e below Fe Q (T.setTop (mkF m q Ls (.int v :: rest)))) : EndG p e below Fe Q (T.setTop (mkF m pc Ls (.double y :: .double x :: rest))) := by
  subst hq; exact k.st fun t w => XS.dcmpS X.here hx rfl hd rfl hv w
theorem k_dconst0 (X : Stand p l e R s m args below meth c T locs cells slots) (hx : p.tables.exec = Jvm.exec) {v : UInt64} (hq : pc + 1 = q) (hd : decode c.code pc = .ok (.dconst 0, 1)) (hv : FP.dconst0 = v) (k : EndG p e below Fe Q (T.setTop (mkF m q Ls (.double v :: rest)))) : EndG p e below Fe Q (T.setTop (mkF m pc Ls (rest))) := by
  subst hq; exact k.st fun t w => XS.dconst0 X.here hx rfl hd hv w
theorem k_dup (X : Stand p l e R s m args below meth c T locs cells slots) (hx : p.tables.exec = Jvm.exec) {x : Value} (hq : pc + 1 = q) (hd : decode c.code pc = .ok (.dup, 1)) (hc : x.category = 1) (k : EndG p e below Fe Q (T.setTop (mkF m q Ls (x :: x :: rest)))) : EndG p e below Fe Q (T.setTop (mkF m pc Ls (x :: rest))) := by
  subst hq; exact k.st fun t w => XS.dup X.here hx rfl hd rfl hc w
theorem k_iinc (X : Stand p l e R s m args below meth c T locs cells slots) (hx : p.tables.exec = Jvm.exec) {j : Nat} {i : Int} {x : Int32} {L' : Array Slot} (hq : pc + 3 = q) (hd : decode c.code pc = .ok (.iinc j i, 3)) (hl : Ls[j]? = some (.val (.int x))) (hl' : storeLocals Ls j (.int (x + Int32.ofInt i)) = some L') (k : EndG p e below Fe Q (T.setTop (mkF m q L' (rest)))) : EndG p e below Fe Q (T.setTop (mkF m pc Ls (rest))) := by
  subst hq; exact k.st fun t w => XS.iinc X.here hx rfl hd hl hl' w
theorem k_goto (X : Stand p l e R s m args below meth c T locs cells slots) (hx : p.tables.exec = Jvm.exec) {o : Int} (ho : 0 ≤ (pc : Int) + o) (hp : ((pc : Int) + o).toNat = q) (hd : decode c.code pc = .ok (.goto o, 3)) (k : EndG p e below Fe Q (T.setTop (mkF m q Ls (rest)))) : EndG p e below Fe Q (T.setTop (mkF m pc Ls (rest))) :=
  k.st fun t w => XS.goto X.here hx rfl (pc0 := pc) (pc' := q) rfl hd ho hp w
theorem k_icmp_eq (X : Stand p l e R s m args below meth c T locs cells slots) (hx : p.tables.exec = Jvm.exec) {x y : Int32} {o : Int} {q1 : Nat} (ho : 0 ≤ (pc : Int) + o) (hp : ((pc : Int) + o).toNat = q1) (hq : pc + 3 = q) (hd : decode c.code pc = .ok (.if_icmp .eq o, 3)) (kt : x = y → EndG p e below Fe Q (T.setTop (mkF m q1 Ls (rest)))) (kf : ¬ x = y → EndG p e below Fe Q (T.setTop (mkF m q Ls (rest)))) : EndG p e below Fe Q (T.setTop (mkF m pc Ls (.int y :: .int x :: rest))) := by
  by_cases h : x = y
  · exact (kt h).st fun t w => XS.icmpYes X.here hx rfl (pc0 := pc) (pc' := q1) rfl hd rfl (XT.ii_eq_t h) ho hp w
  · subst hq; exact (kf h).st fun t w => XS.icmpNo X.here hx rfl hd rfl (XT.ii_eq_f h) w
theorem k_if_eq (X : Stand p l e R s m args below meth c T locs cells slots) (hx : p.tables.exec = Jvm.exec) {x : Int32} {o : Int} {q1 : Nat} (ho : 0 ≤ (pc : Int) + o) (hp : ((pc : Int) + o).toNat = q1) (hq : pc + 3 = q) (hd : decode c.code pc = .ok (.ifCond .eq o, 3)) (kt : x = 0 → EndG p e below Fe Q (T.setTop (mkF m q1 Ls (rest)))) (kf : ¬ x = 0 → EndG p e below Fe Q (T.setTop (mkF m q Ls (rest)))) : EndG p e below Fe Q (T.setTop (mkF m pc Ls (.int x :: rest))) := by
  by_cases h : x = 0
  · exact (kt h).st fun t w => XS.ifYes X.here hx rfl (pc0 := pc) (pc' := q1) rfl hd rfl (XT.i0_eq_t h) ho hp w
  · subst hq; exact (kf h).st fun t w => XS.ifNo X.here hx rfl hd rfl (XT.i0_eq_f h) w
theorem k_icmp_ne (X : Stand p l e R s m args below meth c T locs cells slots) (hx : p.tables.exec = Jvm.exec) {x y : Int32} {o : Int} {q1 : Nat} (ho : 0 ≤ (pc : Int) + o) (hp : ((pc : Int) + o).toNat = q1) (hq : pc + 3 = q) (hd : decode c.code pc = .ok (.if_icmp .ne o, 3)) (kt : ¬ x = y → EndG p e below Fe Q (T.setTop (mkF m q1 Ls (rest)))) (kf : x = y → EndG p e below Fe Q (T.setTop (mkF m q Ls (rest)))) : EndG p e below Fe Q (T.setTop (mkF m pc Ls (.int y :: .int x :: rest))) := by
  by_cases h : x = y
  · subst hq; exact (kf h).st fun t w => XS.icmpNo X.here hx rfl hd rfl (XT.ii_ne_f h) w
  · exact (kt h).st fun t w => XS.icmpYes X.here hx rfl (pc0 := pc) (pc' := q1) rfl hd rfl (XT.ii_ne_t h) ho hp w
theorem k_if_ne (X : Stand p l e R s m args below meth c T locs cells slots) (hx : p.tables.exec = Jvm.exec) {x : Int32} {o : Int} {q1 : Nat} (ho : 0 ≤ (pc : Int) + o) (hp : ((pc : Int) + o).toNat = q1) (hq : pc + 3 = q) (hd : decode c.code pc = .ok (.ifCond .ne o, 3)) (kt : ¬ x = 0 → EndG p e below Fe Q (T.setTop (mkF m q1 Ls (rest)))) (kf : x = 0 → EndG p e below Fe Q (T.setTop (mkF m q Ls (rest)))) : EndG p e below Fe Q (T.setTop (mkF m pc Ls (.int x :: rest))) := by
  by_cases h : x = 0
  · subst hq; exact (kf h).st fun t w => XS.ifNo X.here hx rfl hd rfl (XT.i0_ne_f h) w
  · exact (kt h).st fun t w => XS.ifYes X.here hx rfl (pc0 := pc) (pc' := q1) rfl hd rfl (XT.i0_ne_t h) ho hp w
theorem k_icmp_lt (X : Stand p l e R s m args below meth c T locs cells slots) (hx : p.tables.exec = Jvm.exec) {x y : Int32} {o : Int} {q1 : Nat} (ho : 0 ≤ (pc : Int) + o) (hp : ((pc : Int) + o).toNat = q1) (hq : pc + 3 = q) (hd : decode c.code pc = .ok (.if_icmp .lt o, 3)) (kt : x < y → EndG p e below Fe Q (T.setTop (mkF m q1 Ls (rest)))) (kf : ¬ x < y → EndG p e below Fe Q (T.setTop (mkF m q Ls (rest)))) : EndG p e below Fe Q (T.setTop (mkF m pc Ls (.int y :: .int x :: rest))) := by
  by_cases h : x < y
  · exact (kt h).st fun t w => XS.icmpYes X.here hx rfl (pc0 := pc) (pc' := q1) rfl hd rfl (XT.ii_lt_t h) ho hp w
  · subst hq; exact (kf h).st fun t w => XS.icmpNo X.here hx rfl hd rfl (XT.ii_lt_f h) w
theorem k_icmp_ge (X : Stand p l e R s m args below meth c T locs cells slots) (hx : p.tables.exec = Jvm.exec) {x y : Int32} {o : Int} {q1 : Nat} (ho : 0 ≤ (pc : Int) + o) (hp : ((pc : Int) + o).toNat = q1) (hq : pc + 3 = q) (hd : decode c.code pc = .ok (.if_icmp .ge o, 3)) (kt : ¬ x < y → EndG p e below Fe Q (T.setTop (mkF m q1 Ls (rest)))) (kf : x < y → EndG p e below Fe Q (T.setTop (mkF m q Ls (rest)))) : EndG p e below Fe Q (T.setTop (mkF m pc Ls (.int y :: .int x :: rest))) := by
  by_cases h : x < y
  · subst hq; exact (kf h).st fun t w => XS.icmpNo X.here hx rfl hd rfl (XT.ii_ge_f h) w
  · exact (kt h).st fun t w => XS.icmpYes X.here hx rfl (pc0 := pc) (pc' := q1) rfl hd rfl (XT.ii_ge_t h) ho hp w
theorem k_ifnull_n (X : Stand p l e R s m args below meth c T locs cells slots) (hx : p.tables.exec = Jvm.exec) {o : Int} {a : Addr} (hq : pc + 3 = q) (hd : decode c.code pc = .ok (.ifnull o, 3)) (k : EndG p e below Fe Q (T.setTop (mkF m q Ls (rest)))) : EndG p e below Fe Q (T.setTop (mkF m pc Ls (.ref a :: rest))) := by
  subst hq; exact k.st fun t w => XS.ifnullNo X.here hx rfl hd rfl w
theorem k_retN (X : Stand p l e R s m args below meth c T locs cells slots) (hx : p.tables.exec = Jvm.exec) {z : Int32} {t : FieldType} (hlk : meth.locks = false) (hcl : cells ≤ cl) (hsl : slots ≤ sl) (hret : meth.sig.returnType = some t) (ht : t = .boolean ∨ t = .byte ∨ t = .char ∨ t = .short) (hd : decode c.code pc = .ok (.ireturn, 1)) (hQ : Q (some (.int (nar t z))) T.heap locs) : End p e below s Q cl sl (T.setTop (mkF m pc Ls (.int z :: rest))) := by
  obtain ⟨fs, hr, hrun, hended, hW, hsame⟩ := X.leave (v := (some (.int (nar t z)))) (fun h => by rw [hret] at h; cases h) hlk
  refine ⟨_, _, ?_, hrun, hended, _, _, rfl, hQ, ⟨_, rfl⟩, hW, hsame.mono hcl hsl⟩
  exact retN X hx hret ht hd hr
theorem k_retD (X : Stand p l e R s m args below meth c T locs cells slots) (hx : p.tables.exec = Jvm.exec) {z : UInt64} (hlk : meth.locks = false) (hcl : cells ≤ cl) (hsl : slots ≤ sl) (hret : meth.sig.returnType = some .double) (hd : decode c.code pc = .ok (.dreturn, 1)) (hQ : Q (some (.double z)) T.heap locs) : End p e below s Q cl sl (T.setTop (mkF m pc Ls (.double z :: rest))) := by
  obtain ⟨fs, hr, hrun, hended, hW, hsame⟩ := X.leave (v := (some (.double z))) (fun h => by rw [hret] at h; cases h) hlk
  refine ⟨_, _, ?_, hrun, hended, _, _, rfl, hQ, ⟨_, rfl⟩, hW, hsame.mono hcl hsl⟩
  exact retOut X hx hret rfl (Or.inr (Or.inr (Or.inl ⟨rfl, rfl, _, rfl⟩))) hd hr
theorem k_retA (X : Stand p l e R s m args below meth c T locs cells slots) (hx : p.tables.exec = Jvm.exec) {z : Value} {t : FieldType} (hlk : meth.locks = false) (hcl : cells ≤ cl) (hsl : slots ≤ sl) (hret : meth.sig.returnType = some t) (ht : t.isReference = true) (hz : z.isRef = true) (hd : decode c.code pc = .ok (.areturn, 1)) (hQ : Q (some z) T.heap locs) : End p e below s Q cl sl (T.setTop (mkF m pc Ls (z :: rest))) := by
  obtain ⟨fs, hr, hrun, hended, hW, hsame⟩ := X.leave (v := (some z)) (fun h => by rw [hret] at h; cases h) hlk
  refine ⟨_, _, ?_, hrun, hended, _, _, rfl, hQ, ⟨_, rfl⟩, hW, hsame.mono hcl hsl⟩
  exact retOut X hx hret (by cases t <;> first | rfl | (simp [FieldType.isReference] at ht)) (Or.inr (Or.inr (Or.inr (Or.inr ⟨rfl, ht, hz⟩)))) hd hr
theorem k_retV (X : Stand p l e R s m args below meth c T locs cells slots) (hx : p.tables.exec = Jvm.exec)  (hlk : meth.locks = false) (hcl : cells ≤ cl) (hsl : slots ≤ sl) (hret : meth.sig.returnType = none) (hd : decode c.code pc = .ok (.return_, 1)) (hQ : Q none T.heap locs) : End p e below s Q cl sl (T.setTop (mkF m pc Ls ([]))) := by
  obtain ⟨fs, hr, hrun, hended, hW, hsame⟩ := X.leave (v := none) (fun _ => rfl) hlk
  refine ⟨_, _, ?_, hrun, hended, _, _, rfl, hQ, ⟨_, rfl⟩, hW, hsame.mono hcl hsl⟩
  exact X.returnOut hx hret hd hr
variable {Z : State} {a0 : Array Value} {h : Heap}
theorem k_getF (X : Stand p l e R s m args below meth c T locs cells slots) (hx : p.tables.exec = Jvm.exec) (hZ : Z.Warmed39 s.vm) {own R0 O n d host : String} {index : Nat} (hown : s.vm.findClass own = some m.cls) (w0 : (Cond.fieldLink own index R0 n d).before a0 Z = true ∨ (Cond.fieldLinkNest own index R0 n d host).before a0 Z = true) (via : Via Z R0 O n d) (eT : T.heap = h) {a : Addr} {v : Value} (hq : pc + 3 = q) (hd : decode c.code pc = .ok (.getfield index, 3)) (F : Fld Z h a O n d v) (k : ∀ T', Stand p l e R s m args below meth c T' locs cells slots → T'.heap = h → EndG p e below Fe Q (T'.setTop (mkF m q Ls (v :: rest)))) : EndG p e below Fe Q (T.setTop (mkF m pc Ls (.ref a :: rest))) := by
  subst hq; obtain ⟨T', X', e', st⟩ := getF X hx hZ hown w0 via eT F (g := (mkF m pc Ls (.ref a :: rest))) rfl rfl hd
  exact (k T' X' e').st st
theorem k_putF (X : Stand p l e R s m args below meth c T locs cells slots) (hx : p.tables.exec = Jvm.exec) (hZ : Z.Warmed39 s.vm) {own R0 O n d host C : String} {index kk : Nat} {ty : FieldType} (hown : s.vm.findClass own = some m.cls) (w0 : (Cond.fieldLink own index R0 n d).before a0 Z = true ∨ (Cond.fieldLinkNest own index R0 n d host).before a0 Z = true) (via : Via Z R0 O n d) (eT : T.heap = h) {a : Addr} {v old : Value} (L0 : (Cond.lays C O n d).before a0 Z = true ∨ ((Cond.laysFinal C O n d).before a0 Z = true ∧ own = O ∧ meth.name = "<init>")) (wi : (Cond.instantiable C kk).before a0 Z = true) (hty : parseFieldDescriptor d = some ty) (hn : narrow ty v = v) (hf : fits ty v = true) (hq : pc + 3 = q) (hd : decode c.code pc = .ok (.putfield index, 3)) (F : Fld Z h a O n d old) (E : Exa Z h a C) (k : ∀ T' h', Stand p l e R s m args below meth c T' (locs ++ [⟨a, Jvm.RoadKit.slotOf Z O n d⟩]) cells slots → T'.heap = h' → Wr h h' a (Jvm.RoadKit.slotOf Z O n d) v → EndG p e below Fe Q (T'.setTop (mkF m q Ls (rest)))) : EndG p e below Fe Q (T.setTop (mkF m pc Ls (v :: .ref a :: rest))) := by
  subst hq; obtain ⟨T', h', X', e', W', st⟩ := putF X hx hZ hown w0 via eT F E L0 wi hty hn hf (g := (mkF m pc Ls (v :: .ref a :: rest))) rfl rfl hd
  exact (k T' h' X' e' W').st st
theorem k_new (X : Stand p l e R s m args below meth c T locs cells slots) (hx : p.tables.exec = Jvm.exec) (hZ : Z.Warmed39 s.vm) {own C : String} {index n : Nat} (hown : s.vm.findClass own = some m.cls) (w0 : (Cond.classLink own index C).before a0 Z = true) (wi : (Cond.instantiable C n).before a0 Z = true) (wz : (Cond.initialized C).before a0 Z = true) (eT : T.heap = h) (hq : pc + 3 = q) (hd : decode c.code pc = .ok (.new index, 3)) (hc : cells + 1 ≤ R.cells) (hl : slots + n ≤ R.slots) (k : ∀ T' h' a, Stand p l e R s m args below meth c T' locs (cells + 1) (slots + n) → T'.heap = h' → a = h.size → Ext h h' → Exa Z h' a C → (∀ {O nm d : String} {ty : FieldType}, Laid Z a0 C O nm d → parseFieldDescriptor d = some ty → Fld Z h' a O nm d (defaultValue ty)) → EndG p e below Fe Q (T'.setTop (mkF m q Ls (.ref a :: rest)))) : EndG p e below Fe Q (T.setTop (mkF m pc Ls (rest))) := by
  subst hq; obtain ⟨T', h', X', e', E', A', D', -, st⟩ := newO X hx hZ hown w0 wi wz eT (g := (mkF m pc Ls (rest))) rfl hd hc hl
  exact (k T' h' _ X' e' rfl E' A' D').st st
theorem k_newP (X : Stand p l e R s m args below meth c T locs cells slots) (hx : p.tables.exec = Jvm.exec) (hZ : Z.Warmed39 s.vm) {aty : ArrayType} (w0 : (Cond.arrayClass (newarray.typeOf aty)).before a0 Z = true) (eT : T.heap = h) {n : Int32} (hq : pc + 2 = q) (hd : decode c.code pc = .ok (.newarray aty, 2)) (hn : ¬ n < 0) {cap : Nat} (hcap : n.toNatClampNeg ≤ cap) (hb : cap * 8 ≤ 536870912) (hc : cells + 1 ≤ R.cells) (hl : slots + cap ≤ R.slots) (k : ∀ T' h' a cA, Stand p l e R s m args below meth c T' locs (cells + 1) (slots + cap) → T'.heap = h' → a = h.size → Ext h h' → Arr Z h' a (newA cA (newarray.typeOf aty) n) (newarray.typeOf aty) → EndG p e below Fe Q (T'.setTop (mkF m q Ls (.ref a :: rest)))) : EndG p e below Fe Q (T.setTop (mkF m pc Ls (.int n :: rest))) := by
  subst hq; obtain ⟨T', h', cA, X', e', E', A', st⟩ := newP X hx hZ w0 eT (g := (mkF m pc Ls (.int n :: rest))) rfl hd rfl hn hcap hb hc hl
  exact (k T' h' _ cA X' e' rfl E' A').st st
theorem k_initO (X : Stand p l e R s m args below meth c T locs cells slots) (hx : p.tables.exec = Jvm.exec) (hZ : Z.Warmed39 s.vm) {own : String} {index : Nat} (hown : s.vm.findClass own = some m.cls) (w1 : (Cond.methodLink own index Lib.objectInit).before a0 Z = true) (w2 : (Cond.instanceMethod Lib.objectInit).before a0 Z = true) (w3 : (Cond.code Lib.objectInit ⟨#[0xb1]⟩ 1 none).before a0 Z = true) (eT : T.heap = h) {a : Addr} (hq : pc + 3 = q) (hd : decode c.code pc = .ok (.invokespecial index, 3)) (hls : Ls.size = c.maxLocals) (hf : 1 ≤ R.frames) (W : Nat) (hW : 2 * 0 + (rest.map fun v => v.category).sum ≤ W) (hl : W + 12 ≤ R.locals) (k : ∀ T', Stand p l e R s m args below meth c T' locs cells slots → T'.heap = h → EndG p e below Fe Q (T'.setTop (mkF m q Ls (rest)))) : EndG p e below Fe Q (T.setTop (mkF m pc Ls (.ref a :: rest))) := by
  subst hq; obtain ⟨T', X', e', st⟩ := initO X hx hZ hown w1 w2 w3 eT (g := (mkF m pc Ls (.ref a :: rest))) rfl hls rfl hd hf (W := W) hW hl
  exact (k T' X' e').st st
end Steps
/-- the array at a has n places; the place t holds v t -/
def Ary (Z : State) (h : Heap) (a : Addr) (ty : FieldType) (n : Nat) (v : Nat → Value) : Prop := ∃ c : Cell, Arr Z h a c ty ∧ c.slots.size = n ∧ n < 2 ^ 31 ∧ ∀ t, t < n → c.slots[t]? = some (v t)
/-- g, but x at i -/
def upd {α : Type} (g : Nat → α) (i : Nat) (x : α) : Nat → α := fun t => if t = i then x else g t
theorem upd_same {α : Type} (g : Nat → α) (i : Nat) (x : α) : upd g i x i = x := if_pos rfl
theorem upd_other {α : Type} (g : Nat → α) {i t : Nat} (x : α) (q : t ≠ i) : upd g i x t = g t := if_neg q
section Arys
variable {Z : State} {h h' : Heap} {a b : Addr} {ty : FieldType} {n : Nat} {v w : Nat → Value} {sl : Nat} {x : Value} {ws : List Addr}
theorem Ary.lt (F : Ary Z h a ty n v) : a < h.size := by obtain ⟨c, A, -⟩ := F; exact A.lt
theorem Ary.ext (F : Ary Z h a ty n v) (E : Ext h h') : Ary Z h' a ty n v := by obtain ⟨c, A, r⟩ := F; exact ⟨c, A.ext E, r⟩
theorem Ary.other (F : Ary Z h b ty n v) (W : Wr h h' a sl x) (q : b ≠ a) : Ary Z h' b ty n v := by obtain ⟨c, A, r⟩ := F; exact ⟨c, A.other W q, r⟩
theorem Ary.keep (F : Ary Z h a ty n v) (K : Keep h h' ws) (q : a ∉ ws) : Ary Z h' a ty n v := by obtain ⟨c, A, r⟩ := F; exact ⟨c, ⟨K.2.1 a c A.1 q, A.2⟩, r⟩
theorem Ary.same (F : Ary Z h a ty n v) (W : Wr h h' a sl x) : Ary Z h' a ty n (fun t => if t = sl then x else v t) := by
  obtain ⟨c, A, S, B, H⟩ := F
  refine ⟨_, A.same W, by rw [sz_set, S], B, fun t ht => ?_⟩
  by_cases q : t = sl
  · subst q; simp [Cell.setSlot, S, ht]
  · simp only [if_neg q, Cell.setSlot]; rw [Array.getElem?_setIfInBounds_ne (Ne.symm q)]; exact H t ht
theorem Ary.congr (F : Ary Z h a ty n v) (q : ∀ t, t < n → v t = w t) : Ary Z h a ty n w := by obtain ⟨c, A, S, B, H⟩ := F; exact ⟨c, A, S, B, fun t ht => by rw [H t ht, q t ht]⟩
theorem Ary.new {k : ClassId} {z : Int32} (A : Arr Z h a (newA k ty z) ty) (q : ¬ z < 0) (hn : z.toNatClampNeg = n) : Ary Z h a ty n (fun _ => defaultValue ty) := by
  subst hn; exact ⟨_, A, sz_new _ _ _, (back32 q).2, fun t ht => by simp [newA, ht]⟩
theorem Keep.of_ext (E : Ext h h') : Keep h h' [] := (Keep.refl h []).ext E
def Cls (h : Heap) (a : Addr) (k : ClassId) : Prop := ∃ c : Cell, h[a]? = some c ∧ c.cls = k
theorem Cls.lt {k : ClassId} (F : Cls h a k) : a < h.size := by obtain ⟨c, h1, -⟩ := F; exact (Array.getElem?_eq_some_iff.mp h1).1
theorem Cls.keep {k : ClassId} (F : Cls h a k) (K : Keep h h' ws) : Cls h' a k := by obtain ⟨c, h1, h2⟩ := F; obtain ⟨c', q1, q2, -⟩ := K.2.2 _ _ h1; exact ⟨c', q1, q2.trans h2⟩
theorem Sto.ofA {k : ClassId} {C : String} {y : Addr} (A : Ary Z h a ty n v) (q : Cls h a k) (O : Ovr Z k C) (I : Ins Z h y C true) : Sto Z h a (.ref y) := by
  obtain ⟨c, A, r⟩ := A; obtain ⟨c', q1, q2⟩ := q; cases A.1.symm.trans q1; exact Sto.of A (q2 ▸ O) I
end Arys
theorem acmp_eq_t {a b : Addr} (h : a = b) : XT.acmp .eq (.ref a) (.ref b) = true := by subst h; simp [XT.acmp]
theorem acmp_eq_f {a b : Addr} (h : ¬ a = b) : XT.acmp .eq (.ref a) (.ref b) = false := by simp [XT.acmp, h]
theorem acmp_ne_t {a b : Addr} (h : ¬ a = b) : XT.acmp .ne (.ref a) (.ref b) = true := by simp [XT.acmp, h]
theorem acmp_ne_f {a b : Addr} (h : a = b) : XT.acmp .ne (.ref a) (.ref b) = false := by subst h; simp [XT.acmp]
/-- j names the place i -/
def Ix (j : Int32) (i : Nat) : Prop := ¬ j < 0 ∧ j.toNatClampNeg = i
theorem Ix.in {j : Int32} {i n : Nat} {c : Cell} (q : Ix j i) (S : c.slots.size = n) (hi : i < n) : ¬ (j < 0 ∨ c.slots.size ≤ j.toNatClampNeg) := fun o => o.elim q.1 fun o => by rw [S, q.2] at o; omega
theorem Ix.of {j : Int32} {i : Nat} (q : j.toInt = i) : Ix j i := by
  have h0 : ¬ j < 0 := by rw [Int32.lt_iff_toInt_lt, show (0 : Int32).toInt = 0 from by decide]; omega
  refine ⟨h0, ?_⟩
  have := nat_of h0; omega
theorem Ix.int {j : Int32} {i : Nat} (q : Ix j i) : j.toInt = i := by have := nat_of q.1; rw [q.2] at this; exact this
section Steps
variable {p : Program} {l : Launch} {e : Env} {R : Room} {s : State} {m : MethodId} {args : Array Value} {below : List Frame} {meth : Method} {c : Code} {T : State} {locs : List Loc} {cells slots : Nat} {Fe : Outcome → State → List Loc → Prop} {Q : Option Value → Heap → List Loc → Prop} {cl sl : Nat} {pc q : Nat} {Ls : Array Slot} {rest : List Value}
variable {Z : State} {a0 : Array Value} {h : Heap}
theorem k_arI (X : Stand p l e R s m args below meth c T locs cells slots) (hx : p.tables.exec = Jvm.exec) (hZ : Z.Warmed39 s.vm) (eT : T.heap = h) {a : Addr} {n : Nat} {v : Nat → Value} {j : Int32} {x : Value} (i : Nat) (hq : pc + 1 = q) (hd : decode c.code pc = .ok (.iaload, 1)) (A : Ary Z h a .int n v) (hj : Ix j i) (hi : i < n) (hv : v i = x) (k : EndG p e below Fe Q (T.setTop (mkF m q Ls (x :: rest)))) : EndG p e below Fe Q (T.setTop (mkF m pc Ls (.int j :: .ref a :: rest))) := by
  obtain ⟨ce, A, S, B, H⟩ := A
  subst hq hv; exact k.st fun t w => X.iaload hx (j := j) (v := v i) (by rw [eT]; exact A.1) (State.isArrayOf_alike hZ.alike A.2.1) A.2.2 (hj.in S hi) (by rw [hj.2]; exact H i hi) (g := (mkF m pc Ls (.int j :: .ref a :: rest))) rfl rfl hd t w
theorem k_arD (X : Stand p l e R s m args below meth c T locs cells slots) (hx : p.tables.exec = Jvm.exec) (hZ : Z.Warmed39 s.vm) (eT : T.heap = h) {a : Addr} {n : Nat} {v : Nat → Value} {j : Int32} {x : Value} (i : Nat) (hq : pc + 1 = q) (hd : decode c.code pc = .ok (.daload, 1)) (A : Ary Z h a .double n v) (hj : Ix j i) (hi : i < n) (hv : v i = x) (k : EndG p e below Fe Q (T.setTop (mkF m q Ls (x :: rest)))) : EndG p e below Fe Q (T.setTop (mkF m pc Ls (.int j :: .ref a :: rest))) := by
  obtain ⟨ce, A, S, B, H⟩ := A
  subst hq hv; exact k.st fun t w => X.daload hx (j := j) (v := v i) (by rw [eT]; exact A.1) (State.isArrayOf_alike hZ.alike A.2.1) A.2.2 (hj.in S hi) (by rw [hj.2]; exact H i hi) (g := (mkF m pc Ls (.int j :: .ref a :: rest))) rfl rfl hd t w
theorem k_asI (X : Stand p l e R s m args below meth c T locs cells slots) (hx : p.tables.exec = Jvm.exec) (hZ : Z.Warmed39 s.vm) (eT : T.heap = h) {a : Addr} {n : Nat} {v : Nat → Value} {j : Int32} {x : Int32} (i : Nat) (hq : pc + 1 = q) (hd : decode c.code pc = .ok (.iastore, 1)) (A : Ary Z h a .int n v) (hj : Ix j i) (hi : i < n) (k : ∀ T' h', Stand p l e R s m args below meth c T' (locs ++ [⟨a, i⟩]) cells slots → T'.heap = h' → Wr h h' a i (.int x) → Ary Z h' a .int n (fun t => if t = i then (.int x) else v t) → EndG p e below Fe Q (T'.setTop (mkF m q Ls (rest)))) : EndG p e below Fe Q (T.setTop (mkF m pc Ls (.int x :: .int j :: .ref a :: rest))) := by
  have A0 := A
  obtain ⟨ce, A, S, B, H⟩ := A
  subst hq; obtain ⟨T', h', X', e', W', st⟩ := stI X hx hZ eT A (hj.in S hi) (g := (mkF m pc Ls (.int x :: .int j :: .ref a :: rest))) rfl rfl hd
  rw [hj.2] at X' W'
  exact (k T' h' X' e' W' (A0.same W')).st st
theorem k_asD (X : Stand p l e R s m args below meth c T locs cells slots) (hx : p.tables.exec = Jvm.exec) (hZ : Z.Warmed39 s.vm) (eT : T.heap = h) {a : Addr} {n : Nat} {v : Nat → Value} {j : Int32} {x : UInt64} (i : Nat) (hq : pc + 1 = q) (hd : decode c.code pc = .ok (.dastore, 1)) (A : Ary Z h a .double n v) (hj : Ix j i) (hi : i < n) (k : ∀ T' h', Stand p l e R s m args below meth c T' (locs ++ [⟨a, i⟩]) cells slots → T'.heap = h' → Wr h h' a i (.double x) → Ary Z h' a .double n (fun t => if t = i then (.double x) else v t) → EndG p e below Fe Q (T'.setTop (mkF m q Ls (rest)))) : EndG p e below Fe Q (T.setTop (mkF m pc Ls (.double x :: .int j :: .ref a :: rest))) := by
  have A0 := A
  obtain ⟨ce, A, S, B, H⟩ := A
  subst hq; obtain ⟨T', h', X', e', W', st⟩ := stD X hx hZ eT A (hj.in S hi) (g := (mkF m pc Ls (.double x :: .int j :: .ref a :: rest))) rfl rfl hd
  rw [hj.2] at X' W'
  exact (k T' h' X' e' W' (A0.same W')).st st
theorem k_al (X : Stand p l e R s m args below meth c T locs cells slots) (hx : p.tables.exec = Jvm.exec) (hZ : Z.Warmed39 s.vm) (eT : T.heap = h) {a : Addr} {ty : FieldType} {n : Nat} {v : Nat → Value} {z : Int32} (hq : pc + 1 = q) (hd : decode c.code pc = .ok (.arraylength, 1)) (A : Ary Z h a ty n v) (hz : n.toInt32 = z) (k : EndG p e below Fe Q (T.setTop (mkF m q Ls (.int z :: rest)))) : EndG p e below Fe Q (T.setTop (mkF m pc Ls (.ref a :: rest))) := by
  obtain ⟨ce, A, S, B, H⟩ := A
  subst hq hz; exact k.st fun t w => X.arraylength hx (by rw [eT]; exact A.1) (State.isArrayOf_alike hZ.alike A.2.1) (g := (mkF m pc Ls (.ref a :: rest))) rfl rfl hd t (by rw [S]; exact w)
theorem k_callS (X : Stand p l e R s m args below meth c T locs cells slots) (hx : p.tables.exec = Jvm.exec) (hZ : Z.Warmed39 s.vm) {own : String} {index : Nat} {y : MethodName} {bytes : ByteArray} {maxL : Nat} {ret : Option FieldType} {rm : Room} {as : List Value} {Qc : Option Value → Heap → List Loc → Prop} (hown : s.vm.findClass own = some m.cls) (w1 : (Cond.methodLink own index y).before a0 Z = true) (w2 : (Cond.static y).before a0 Z = true) (w3 : (Cond.initialized y.cls).before a0 Z = true) (w4 : (Cond.code y bytes maxL ret).before a0 Z = true) (hy : y.cls ≠ "java/lang/invoke/MethodHandle" ∧ y.cls ≠ "java/lang/invoke/VarHandle") (W : Nat) (eT : T.heap = h) (hM : Con l Z y bytes maxL ret [] rm (as).toArray h Qc) (hf : rm.frames + 1 ≤ R.frames) (hl : W + (maxL + 11) + rm.locals ≤ R.locals) (hcl : cells + rm.cells ≤ R.cells) (hsl : slots + rm.slots ≤ R.slots) (hls : Ls.size = c.maxLocals) {ps : List FieldType} {rt : Option FieldType} (hpd : parseMethodDescriptor y.desc = some ⟨ps, rt⟩) (hlen : as.length = ps.length) (hW : 2 * 0 + (rest.map fun v => v.category).sum ≤ W) (hq : pc + 3 = q) (hd : decode c.code pc = .ok (.invokestatic index, 3)) (k : ∀ v T' L, Stand p l e R s m args below meth c T' (locs ++ L) (cells + rm.cells) (slots + rm.slots) → Qc v T'.heap L → EndG p e below Fe Q (T'.setTop (mkF m q Ls (v.toList ++ rest)))) : EndG p e below Fe Q (T.setTop (mkF m pc Ls (as.reverse ++ rest))) := by
  subst hq
  obtain ⟨v, _, ⟨T', L', k', n'⟩, -, X', ⟨Lc, hQ, l', y', z'⟩, st⟩ := Jvm.LawKit.callS X hx (y := y) hown (mvT hZ w1) (mvT hZ w2) (mvT hZ w3) (mvT hZ w4) hy (backOf (W := W) hM hZ w4 w3 hf hl) (g := (mkF m pc Ls (as.reverse ++ rest))) rfl hls (argsL := as) (rest := rest) (lenOf hpd hlen) rfl hW hd (fun _ _ => ⟨rfl, eT, hcl, hsl⟩)
  dsimp only [Pt.U, Pt.locs, Pt.cells, Pt.slots] at X' l' y' z' st hQ
  subst l' y' z'
  exact (k v T' Lc X' hQ).st st
theorem k_callI (X : Stand p l e R s m args below meth c T locs cells slots) (hx : p.tables.exec = Jvm.exec) (hZ : Z.Warmed39 s.vm) {own : String} {index : Nat} {y : MethodName} {bytes : ByteArray} {maxL : Nat} {rm : Room} {as : List Value} {Qc : Option Value → Heap → List Loc → Prop} {a : Addr} (hown : s.vm.findClass own = some m.cls) (hy1 : y.name = "<init>") (w1 : (Cond.methodLink own index y).before a0 Z = true) (w2 : (Cond.instanceMethod y).before a0 Z = true) (w3 : (Cond.initialized y.cls).before a0 Z = true) (w4 : (Cond.code y bytes maxL none).before a0 Z = true) (hy : y.cls ≠ "java/lang/invoke/MethodHandle" ∧ y.cls ≠ "java/lang/invoke/VarHandle") (W : Nat) (eT : T.heap = h) (hM : Con l Z y bytes maxL none [] rm (.ref a :: as).toArray h Qc) (hf : rm.frames + 1 ≤ R.frames) (hl : W + (maxL + 11) + rm.locals ≤ R.locals) (hcl : cells + rm.cells ≤ R.cells) (hsl : slots + rm.slots ≤ R.slots) (hls : Ls.size = c.maxLocals) {ps : List FieldType} {rt : Option FieldType} (hpd : parseMethodDescriptor y.desc = some ⟨ps, rt⟩) (hlen : as.length = ps.length) (hW : 2 * 0 + (rest.map fun v => v.category).sum ≤ W) (hq : pc + 3 = q) (hd : decode c.code pc = .ok (.invokespecial index, 3)) (k : ∀ v T' L, Stand p l e R s m args below meth c T' (locs ++ L) (cells + rm.cells) (slots + rm.slots) → Qc v T'.heap L → EndG p e below Fe Q (T'.setTop (mkF m q Ls (v.toList ++ rest)))) : EndG p e below Fe Q (T.setTop (mkF m pc Ls (as.reverse ++ .ref a :: rest))) := by
  subst hq
  obtain ⟨v, _, ⟨T', L', k', n'⟩, -, X', ⟨Lc, hQ, l', y', z'⟩, st⟩ := X.specialBack hx (y := y) hy1 hown (mvT hZ w1) (mvT hZ w2) (mvT hZ w4) hy (backOf (W := W) hM hZ w4 w3 hf hl) (g := (mkF m pc Ls (as.reverse ++ .ref a :: rest))) rfl hls (Steps.refl _) (a := a) (argsL := as) (rest := rest) (lenOf hpd hlen) rfl hW hd (fun _ _ => ⟨rfl, eT, hcl, hsl⟩)
  dsimp only [Pt.U, Pt.locs, Pt.cells, Pt.slots] at X' l' y' z' st hQ
  subst l' y' z'
  exact (k v T' Lc X' hQ).tr st
theorem k_callV (X : Stand p l e R s m args below meth c T locs cells slots) (hx : p.tables.exec = Jvm.exec) (hZ : Z.Warmed39 s.vm) {own : String} {index : Nat} {y : MethodName} {bytes : ByteArray} {maxL : Nat} {ret : Option FieldType} {rm : Room} {as : List Value} {Qc : Option Value → Heap → List Loc → Prop} {a : Addr} {C : String} {z : MethodName} (hown : s.vm.findClass own = some m.cls) (w1 : (Cond.methodLink own index y).before a0 Z = true) (w2 : (Cond.declares y).before a0 Z = true) (hnf : NotFace s y) (w3 : (Cond.selects C y z).before a0 Z = true) (w4 : (Cond.instanceMethod z).before a0 Z = true) (w5 : (Cond.code z bytes maxL ret).before a0 Z = true) (w6 : (Cond.initialized z.cls).before a0 Z = true) (hy : y.cls ≠ "java/lang/invoke/MethodHandle" ∧ y.cls ≠ "java/lang/invoke/VarHandle") (Ex : Exa Z h a C) (W : Nat) (eT : T.heap = h) (hM : Con l Z z bytes maxL ret [] rm (.ref a :: as).toArray h Qc) (hf : rm.frames + 1 ≤ R.frames) (hl : W + (maxL + 11) + rm.locals ≤ R.locals) (hcl : cells + rm.cells ≤ R.cells) (hsl : slots + rm.slots ≤ R.slots) (hls : Ls.size = c.maxLocals) {ps : List FieldType} {rt : Option FieldType} (hpd : parseMethodDescriptor y.desc = some ⟨ps, rt⟩) (hlen : as.length = ps.length) (hW : 2 * 0 + (rest.map fun v => v.category).sum ≤ W) (hq : pc + 3 = q) (hd : decode c.code pc = .ok (.invokevirtual index, 3)) (k : ∀ v T' L, Stand p l e R s m args below meth c T' (locs ++ L) (cells + rm.cells) (slots + rm.slots) → Qc v T'.heap L → EndG p e below Fe Q (T'.setTop (mkF m q Ls (v.toList ++ rest)))) : EndG p e below Fe Q (T.setTop (mkF m pc Ls (as.reverse ++ .ref a :: rest))) := by
  subst hq
  obtain ⟨cB, kB, q1, q2, q3⟩ := isOf hZ eT Ex
  obtain ⟨v, _, ⟨T', L', k', n'⟩, -, X', ⟨Lc, hQ, l', y', z'⟩, st⟩ := X.virtualBack hx (y := y) (z := z) hown (mvT hZ w1) (mvT hZ w2) hnf (mvT hZ w3) (mvT hZ w4) hy (backOf (W := W) hM hZ w5 w6 hf hl) q1 q3 (g := (mkF m pc Ls (as.reverse ++ .ref a :: rest))) rfl hls (Steps.refl _) (argsL := as) (rest := rest) (lenOf hpd hlen) rfl hW hd (fun _ _ => ⟨rfl, eT, hcl, hsl⟩)
  dsimp only [Pt.U, Pt.locs, Pt.cells, Pt.slots] at X' l' y' z' st hQ
  subst l' y' z'
  exact (k v T' Lc X' hQ).tr st
end Steps
end Jvm.OwnK
namespace Jvm.Pilot.@@N@@
open Jvm Jvm.ClassFile Sem Op Lib Jvm.Free Jvm.Stand Jvm.LawKit Jvm.RoadKit Jvm.OwnK Bundle Jvm.Pilot.@@N@@.Jvm.D
theorem pn_0 : plainName "java/lang/Record" = true := by first | (simp [plainName, overriddenIn]; done) | decide +kernel
theorem pn_1 : plainName "com/example/footwise/footwise/search/Route" = true := by first | (simp [plainName, overriddenIn]; done) | decide +kernel
theorem pn_2 : plainName "com/example/footwise/footwise/search/RouteOfPinLaw" = true := by first | (simp [plainName, overriddenIn]; done) | decide +kernel
theorem pd_0 : parseMethodDescriptor "()V" = some ⟨[], none⟩ := by decide +kernel
theorem pd_1 : parseMethodDescriptor "([I[ID)V" = some ⟨[(.array .int), (.array .int), .double], none⟩ := by decide +kernel
theorem pd_2 : parseMethodDescriptor "([I[I[D)Lcom/example/footwise/footwise/search/Route;" = some ⟨[(.array .int), (.array .int), (.array .double)], some (.object "com/example/footwise/footwise/search/Route")⟩ := by decide +kernel
theorem pd_3 : parseMethodDescriptor "()D" = some ⟨[], some .double⟩ := by decide +kernel
theorem pd_4 : parseMethodDescriptor "()[I" = some ⟨[], some (.array .int)⟩ := by decide +kernel
theorem pd_5 : parseMethodDescriptor "([I[II)Z" = some ⟨[(.array .int), (.array .int), .int], some .boolean⟩ := by decide +kernel
theorem pd_6 : parseMethodDescriptor "(IIIII)D" = some ⟨[.int, .int, .int, .int, .int], some .double⟩ := by decide +kernel
theorem os1_25_0 {z0 : Value} {z1 : Value} {z2 : Value} {z3 : Value} {z5 : Value} {z6 : Value} {z7 : Value} {u : Slot} {v : Int32} (h : One u) : storeLocals #[.val z0, .val z1, .val z2, .val z3, .second, .val z5, .val z6, .val z7, u] 8 (.int v) = some #[.val z0, .val z1, .val z2, .val z3, .second, .val z5, .val z6, .val z7, .val (.int v)] := by
  rcases h with rfl | ⟨w, rfl, hw⟩
  · rfl
  · cases w <;> first | rfl | (simp [Value.category] at hw)
theorem own_z0 : (0 : Int32).toInt = 0 := by decide
theorem own_nat {k : Nat} (h : k < 2 ^ 31) : Ix k.toInt32 k := Ix.of (len_toInt h)
theorem own_is {j : Int32} {i : Nat} (h : Ix j i) : j = i.toInt32 := Int32.toInt_inj.mp (by
  have e := h.int
  have b := (rng32 j).2
  rw [len_toInt (by omega), e])
theorem own_up {x : Int32} {k : Nat} (q : Ix x k) (hk : k < 2147483000) : Ix (x + 1) (k + 1) := by
  apply Ix.of
  have e := c_iadd x 1
  have b := rng32 (x + 1)
  have i := q.int
  have e1 : (1 : Int32).toInt = 1 := by decide
  rw [e1] at e
  omega
theorem own_lt {j m : Int32} {k n : Nat} (q : Ix j k) (r : Ix m n) : j < m ↔ k < n := by
  have := q.int
  have := r.int
  rw [Int32.lt_iff_toInt_lt]; omega
theorem own_eqi {j m : Int32} {k n : Nat} (q : Ix j k) (r : Ix m n) : j = m ↔ k = n := by
  have := q.int
  have := r.int
  rw [← Int32.toInt_inj]; omega
def own_of (y0 y1 y2 y3 y4 : Int32) : Nat → Int32 := fun t => if t = 0 then y0 else if t = 1 then y1 else if t = 2 then y2 else if t = 3 then y3 else y4
def own_sum (c : Nat → Int32) (si : Nat → Nat) : Nat → Int64
  | 0 => 0
  | i + 1 => own_sum c si i + (c (si i)).toInt64
theorem own_sum_b (c : Nat → Int32) (si : Nat → Nat) : ∀ i : Nat, i ≤ 4 → -(2147483648 * (i : Int)) ≤ (own_sum c si i).toInt ∧ (own_sum c si i).toInt ≤ 2147483648 * (i : Int)
  | 0, _ => by have : (own_sum c si 0).toInt = 0 := by show (0 : Int64).toInt = 0; decide
               omega
  | i + 1, h => by
    have ih := own_sum_b c si i (by omega)
    have e := c_ladd (own_sum c si i) (c (si i)).toInt64
    have e2 := c_i2l (c (si i))
    have b := rng32 (c (si i))
    have r := rng64 (own_sum c si i + (c (si i)).toInt64)
    show -(2147483648 * ((i + 1 : Nat) : Int)) ≤ (own_sum c si i + (c (si i)).toInt64).toInt ∧ (own_sum c si i + (c (si i)).toInt64).toInt ≤ 2147483648 * ((i + 1 : Nat) : Int)
    omega
theorem own_b53 (c : Nat → Int32) (si : Nat → Nat) {i : Nat} (h : i ≤ 4) : Jvm.RoadKit.B53 (own_sum c si i) := by
  have := own_sum_b c si i h
  constructor <;> omega
theorem own_i53 (x : Int32) : Jvm.RoadKit.B53 x.toInt64 := by
  have e2 := c_i2l x
  have b := rng32 x
  constructor <;> omega
theorem own_add (c : Nat → Int32) (si : Nat → Nat) {i : Nat} (h : i ≤ 3) : FP.dadd (FP.l2d (own_sum c si i)) (FP.i2d (c (si i))) = FP.l2d (own_sum c si (i + 1)) := by
  rw [Jvm.RoadKit.i2d_w, Jvm.RoadKit.dadd_w (own_b53 c si (by omega)) (own_i53 _)]; rfl
theorem d3_0 : decode jdk_30_method_1_code 0 = .ok (.aload_n 0, 1) := by decide +kernel
theorem d3_1 : decode jdk_30_method_1_code 1 = .ok (.invokespecial 1, 3) := by decide +kernel
theorem d3_4 : decode jdk_30_method_1_code 4 = .ok (.return_, 1) := by decide +kernel
theorem ef_3 (m : MethodId) (x0 : Addr) : entryFrame m #[(.ref x0)] 1 = mkF m 0 #[.val (.ref x0)] [] := by first | (simp [entryFrame, mkF, argsToLocals, Value.category]; done) | rfl
set_option maxRecDepth 65536 in
set_option maxHeartbeats 40000000 in
theorem rm3 (l : Launch) (Z : State) (a0 : Array Value) (hw : ∀ d ∈ tables_1, d.before a0 Z = true) (x0 : Addr) (h0 : Heap) (n0 : Nat) :
    Con l Z (⟨"java/lang/Record", "<init>", "()V"⟩ : MethodName) jdk_30_method_1_code 1 none [] ({ frames := 1, cells := 0, slots := 0, locals := 12 } : Room) #[(.ref x0)] h0 (fun v h L => v = none ∧ Fr n0 L ∧ h = h0) := by
  refine Con.of (plainFor_of_name pn_0) ?_
  intro p e s m below meth c s₁ X0 hx hby hml hown hnm hret hlk hZ e0
  refine End.cast ?_ (ef_3 m x0)
  have N0 := Fr.nil n0
  refine k_aloadN X0 hx (q := 1) rfl (hb hby d3_0) rfl rfl ?_
  refine k_initO X0 hx hZ hown (hw _ (List.mem_of_getElem? (i := 16) rfl)) (hw _ (List.mem_of_getElem? (i := 17) rfl)) (hw _ (List.mem_of_getElem? (i := 18) rfl)) e0 (q := 4) rfl (hb hby d3_1) (by rw [hml]; rfl) (by decide) 0 (by first | exact Nat.le_refl _ | simp [Value.category]) (by decide) ?_
  intro T1 X1 e1
  exact k_retV X1 hx hlk (by decide) (by decide) hret (hb hby d3_4) ⟨rfl, N0, e1⟩
theorem d2_0 : decode prog_42_method_1_code 0 = .ok (.aload_n 0, 1) := by decide +kernel
theorem d2_1 : decode prog_42_method_1_code 1 = .ok (.invokespecial 1, 3) := by decide +kernel
theorem d2_4 : decode prog_42_method_1_code 4 = .ok (.aload_n 0, 1) := by decide +kernel
theorem d2_5 : decode prog_42_method_1_code 5 = .ok (.aload_n 1, 1) := by decide +kernel
theorem d2_6 : decode prog_42_method_1_code 6 = .ok (.putfield 7, 3) := by decide +kernel
theorem d2_9 : decode prog_42_method_1_code 9 = .ok (.aload_n 0, 1) := by decide +kernel
theorem d2_10 : decode prog_42_method_1_code 10 = .ok (.aload_n 2, 1) := by decide +kernel
theorem d2_11 : decode prog_42_method_1_code 11 = .ok (.putfield 13, 3) := by decide +kernel
theorem d2_14 : decode prog_42_method_1_code 14 = .ok (.aload_n 0, 1) := by decide +kernel
theorem d2_15 : decode prog_42_method_1_code 15 = .ok (.dload_n 3, 1) := by decide +kernel
theorem d2_16 : decode prog_42_method_1_code 16 = .ok (.putfield 16, 3) := by decide +kernel
theorem d2_19 : decode prog_42_method_1_code 19 = .ok (.return_, 1) := by decide +kernel
theorem ef_2 (m : MethodId) (x0 : Addr) (x1 : Addr) (x2 : Addr) (x3 : UInt64) : entryFrame m #[(.ref x0), (.ref x1), (.ref x2), (.double x3)] 5 = mkF m 0 #[.val (.ref x0), .val (.ref x1), .val (.ref x2), .val (.double x3), .second] [] := by first | (simp [entryFrame, mkF, argsToLocals, Value.category]; done) | rfl
set_option maxRecDepth 65536 in
set_option maxHeartbeats 40000000 in
theorem rm2 (l : Launch) (Z : State) (a0 : Array Value) (hw : ∀ d ∈ tables_1, d.before a0 Z = true) (x0 : Addr) (x1 : Addr) (x2 : Addr) (x3 : UInt64) (h0 : Heap) (n0 : Nat) (ga : n0 ≤ x0) (E0 : Exa Z h0 x0 "com/example/footwise/footwise/search/Route") (F_nodes : Fld Z h0 x0 "com/example/footwise/footwise/search/Route" "nodes" "[I" .null) (F_sections : Fld Z h0 x0 "com/example/footwise/footwise/search/Route" "sections" "[I" .null) (F_cost : Fld Z h0 x0 "com/example/footwise/footwise/search/Route" "cost" "D" (.double 0)) :
    Con l Z (⟨"com/example/footwise/footwise/search/Route", "<init>", "([I[ID)V"⟩ : MethodName) prog_42_method_1_code 5 none [] ({ frames := 2, cells := 0, slots := 0, locals := 24 } : Room) #[(.ref x0), (.ref x1), (.ref x2), (.double x3)] h0 (fun v h L => v = none ∧ Fr n0 L ∧ Keep h0 h [x0] ∧ Fld Z h x0 "com/example/footwise/footwise/search/Route" "nodes" "[I" (.ref x1) ∧ Fld Z h x0 "com/example/footwise/footwise/search/Route" "sections" "[I" (.ref x2) ∧ Fld Z h x0 "com/example/footwise/footwise/search/Route" "cost" "D" (.double x3)) := by
  refine Con.of (plainFor_of_name pn_1) ?_
  intro p e s m below meth c s₁ X0 hx hby hml hown hnm hret hlk hZ e0
  refine End.cast ?_ (ef_2 m x0 x1 x2 x3)
  have N0 := Fr.nil n0
  refine k_aloadN X0 hx (q := 1) rfl (hb hby d2_0) rfl rfl ?_
  refine k_callI X0 hx hZ (y := (⟨"java/lang/Record", "<init>", "()V"⟩ : MethodName)) hown rfl (hw _ (List.mem_of_getElem? (i := 11) rfl)) (hw _ (List.mem_of_getElem? (i := 12) rfl)) (hw _ (List.mem_of_getElem? (i := 14) rfl)) (hw _ (List.mem_of_getElem? (i := 15) rfl)) (by decide) 0 e0 (rm3 l Z a0 hw x0 h0 n0) (by decide) (by decide) (by decide) (by decide) (by rw [hml]; rfl) (a := x0) (as := []) (rest := []) pd_0 rfl (by first | exact Nat.le_refl _ | simp [Value.category]) (q := 4) rfl (hb hby d2_1) ?_
  rintro _ T1 L1 X1 ⟨rfl, N1q, e1⟩
  have N1 := Fr.app N0 N1q
  show End _ _ _ _ _ _ _ (T1.setTop (mkF m 4 #[.val (.ref x0), .val (.ref x1), .val (.ref x2), .val (.double x3), .second] []))
  refine k_aloadN X1 hx (q := 5) rfl (hb hby d2_4) rfl rfl ?_
  refine k_aloadN X1 hx (q := 6) rfl (hb hby d2_5) rfl rfl ?_
  refine k_putF X1 hx hZ (host := "") hown (Or.inl (hw _ (List.mem_of_getElem? (i := 19) rfl))) Via.refl e1 (Or.inr ⟨(hw _ (List.mem_of_getElem? (i := 20) rfl)), rfl, hnm⟩) (hw _ (List.mem_of_getElem? (i := 7) rfl)) (ty := (.array .int)) (by decide) rfl rfl (q := 9) rfl (hb hby d2_6) F_nodes E0 ?_
  intro T2 h2 X2 e2 W2
  have K2 := Keep.of_wr W2
  have N2 := Fr.snoc X2 N1 ga
  have Fw2 := (F_nodes).same W2
  refine k_aloadN X2 hx (q := 10) rfl (hb hby d2_9) rfl rfl ?_
  refine k_aloadN X2 hx (q := 11) rfl (hb hby d2_10) rfl rfl ?_
  have G3 := (F_sections.other W2 (Or.inr (slot_ne (t := (.array .int)) (t' := (.array .int)) (Or.inr (hw _ (List.mem_of_getElem? (i := 22) rfl))) (Or.inr (hw _ (List.mem_of_getElem? (i := 20) rfl))) (by decide) (by decide) (by decide))))
  have G4 := (E0.keep K2)
  refine k_putF X2 hx hZ (host := "") hown (Or.inl (hw _ (List.mem_of_getElem? (i := 21) rfl))) Via.refl e2 (Or.inr ⟨(hw _ (List.mem_of_getElem? (i := 22) rfl)), rfl, hnm⟩) (hw _ (List.mem_of_getElem? (i := 7) rfl)) (ty := (.array .int)) (by decide) rfl rfl (q := 14) rfl (hb hby d2_11) G3 G4 ?_
  intro T5 h5 X5 e5 W5
  have K5 := Keep.of_wr W5
  have N5 := Fr.snoc X5 N2 ga
  have Fw5 := (G3).same W5
  refine k_aloadN X5 hx (q := 15) rfl (hb hby d2_14) rfl rfl ?_
  refine k_dloadN X5 hx (q := 16) rfl (hb hby d2_15) rfl ?_
  have G6 := ((F_cost.other W2 (Or.inr (slot_ne (t := .double) (t' := (.array .int)) (Or.inr (hw _ (List.mem_of_getElem? (i := 24) rfl))) (Or.inr (hw _ (List.mem_of_getElem? (i := 20) rfl))) (by decide) (by decide) (by decide)))).other W5 (Or.inr (slot_ne (t := .double) (t' := (.array .int)) (Or.inr (hw _ (List.mem_of_getElem? (i := 24) rfl))) (Or.inr (hw _ (List.mem_of_getElem? (i := 22) rfl))) (by decide) (by decide) (by decide))))
  have G7 := (G4.keep K5)
  refine k_putF X5 hx hZ (host := "") hown (Or.inl (hw _ (List.mem_of_getElem? (i := 23) rfl))) Via.refl e5 (Or.inr ⟨(hw _ (List.mem_of_getElem? (i := 24) rfl)), rfl, hnm⟩) (hw _ (List.mem_of_getElem? (i := 7) rfl)) (ty := .double) (by decide) rfl rfl (q := 19) rfl (hb hby d2_16) G6 G7 ?_
  intro T8 h8 X8 e8 W8
  have K8 := Keep.of_wr W8
  have N8 := Fr.snoc X8 N5 ga
  have Fw8 := (G6).same W8
  have Kp9 : Keep h0 h2 [x0] := Keep.trans (Keep.refl h0 [x0]) K2 (allS (Or.inl (List.mem_of_getElem? (i := 0) rfl)) all0)
  have Kp10 : Keep h0 h5 [x0] := Keep.trans Kp9 K5 (allS (Or.inl (List.mem_of_getElem? (i := 0) rfl)) all0)
  have Kp11 : Keep h0 h8 [x0] := Keep.trans Kp10 K8 (allS (Or.inl (List.mem_of_getElem? (i := 0) rfl)) all0)
  have G12 := ((Fw2.other W5 (Or.inr (slot_ne (t := (.array .int)) (t' := (.array .int)) (Or.inr (hw _ (List.mem_of_getElem? (i := 20) rfl))) (Or.inr (hw _ (List.mem_of_getElem? (i := 22) rfl))) (by decide) (by decide) (by decide)))).other W8 (Or.inr (slot_ne (t := (.array .int)) (t' := .double) (Or.inr (hw _ (List.mem_of_getElem? (i := 20) rfl))) (Or.inr (hw _ (List.mem_of_getElem? (i := 24) rfl))) (by decide) (by decide) (by decide))))
  have G13 := (Fw5.other W8 (Or.inr (slot_ne (t := (.array .int)) (t' := .double) (Or.inr (hw _ (List.mem_of_getElem? (i := 22) rfl))) (Or.inr (hw _ (List.mem_of_getElem? (i := 24) rfl))) (by decide) (by decide) (by decide))))
  exact k_retV X8 hx hlk (by decide) (by decide) hret (hb hby d2_19) ⟨rfl, N8, by rw [e8]; exact Kp11, by rw [e8]; exact G12, by rw [e8]; exact G13, by rw [e8]; exact Fw8⟩
theorem d5_0 : decode prog_42_method_9_code 0 = .ok (.aload_n 0, 1) := by decide +kernel
theorem d5_1 : decode prog_42_method_9_code 1 = .ok (.getfield 16, 3) := by decide +kernel
theorem d5_4 : decode prog_42_method_9_code 4 = .ok (.dreturn, 1) := by decide +kernel
theorem ef_5 (m : MethodId) (x0 : Addr) : entryFrame m #[(.ref x0)] 1 = mkF m 0 #[.val (.ref x0)] [] := by first | (simp [entryFrame, mkF, argsToLocals, Value.category]; done) | rfl
set_option maxRecDepth 65536 in
set_option maxHeartbeats 40000000 in
theorem rm5 (l : Launch) (Z : State) (a0 : Array Value) (hw : ∀ d ∈ tables_1, d.before a0 Z = true) (x0 : Addr) (h0 : Heap) (n0 : Nat) (y : UInt64) (F0 : Fld Z h0 x0 "com/example/footwise/footwise/search/Route" "cost" "D" (.double y)) :
    Con l Z (⟨"com/example/footwise/footwise/search/Route", "cost", "()D"⟩ : MethodName) prog_42_method_9_code 1 (some .double) [] ({ frames := 0, cells := 0, slots := 0, locals := 0 } : Room) #[(.ref x0)] h0 (fun v h L => v = some (.double y) ∧ Fr n0 L ∧ h = h0) := by
  refine Con.of (plainFor_of_name pn_1) ?_
  intro p e s m below meth c s₁ X0 hx hby hml hown hnm hret hlk hZ e0
  refine End.cast ?_ (ef_5 m x0)
  have N0 := Fr.nil n0
  refine k_aloadN X0 hx (q := 1) rfl (hb hby d5_0) rfl rfl ?_
  refine k_getF X0 hx hZ (host := "") hown (Or.inl (hw _ (List.mem_of_getElem? (i := 23) rfl))) Via.refl e0 (q := 4) rfl (hb hby d5_1) F0 ?_
  intro T1 X1 e1
  exact k_retD X1 hx hlk (by decide) (by decide) hret (hb hby d5_4) ⟨rfl, N0, e1⟩
theorem d6_0 : decode prog_42_method_8_code 0 = .ok (.aload_n 0, 1) := by decide +kernel
theorem d6_1 : decode prog_42_method_8_code 1 = .ok (.getfield 13, 3) := by decide +kernel
theorem d6_4 : decode prog_42_method_8_code 4 = .ok (.areturn, 1) := by decide +kernel
theorem ef_6 (m : MethodId) (x0 : Addr) : entryFrame m #[(.ref x0)] 1 = mkF m 0 #[.val (.ref x0)] [] := by first | (simp [entryFrame, mkF, argsToLocals, Value.category]; done) | rfl
set_option maxRecDepth 65536 in
set_option maxHeartbeats 40000000 in
theorem rm6 (l : Launch) (Z : State) (a0 : Array Value) (hw : ∀ d ∈ tables_1, d.before a0 Z = true) (x0 : Addr) (h0 : Heap) (n0 : Nat) (y : Addr) (F0 : Fld Z h0 x0 "com/example/footwise/footwise/search/Route" "sections" "[I" (.ref y)) :
    Con l Z (⟨"com/example/footwise/footwise/search/Route", "sections", "()[I"⟩ : MethodName) prog_42_method_8_code 1 (some (.array .int)) [] ({ frames := 0, cells := 0, slots := 0, locals := 0 } : Room) #[(.ref x0)] h0 (fun v h L => v = some (.ref y) ∧ Fr n0 L ∧ h = h0) := by
  refine Con.of (plainFor_of_name pn_1) ?_
  intro p e s m below meth c s₁ X0 hx hby hml hown hnm hret hlk hZ e0
  refine End.cast ?_ (ef_6 m x0)
  have N0 := Fr.nil n0
  refine k_aloadN X0 hx (q := 1) rfl (hb hby d6_0) rfl rfl ?_
  refine k_getF X0 hx hZ (host := "") hown (Or.inl (hw _ (List.mem_of_getElem? (i := 21) rfl))) Via.refl e0 (q := 4) rfl (hb hby d6_1) F0 ?_
  intro T1 X1 e1
  exact k_retA X1 hx hlk (by decide) (by decide) hret rfl rfl (hb hby d6_4) ⟨rfl, N0, e1⟩
theorem d8_0 : decode prog_42_method_7_code 0 = .ok (.aload_n 0, 1) := by decide +kernel
theorem d8_1 : decode prog_42_method_7_code 1 = .ok (.getfield 7, 3) := by decide +kernel
theorem d8_4 : decode prog_42_method_7_code 4 = .ok (.areturn, 1) := by decide +kernel
theorem ef_8 (m : MethodId) (x0 : Addr) : entryFrame m #[(.ref x0)] 1 = mkF m 0 #[.val (.ref x0)] [] := by first | (simp [entryFrame, mkF, argsToLocals, Value.category]; done) | rfl
set_option maxRecDepth 65536 in
set_option maxHeartbeats 40000000 in
theorem rm8 (l : Launch) (Z : State) (a0 : Array Value) (hw : ∀ d ∈ tables_1, d.before a0 Z = true) (x0 : Addr) (h0 : Heap) (n0 : Nat) (y : Addr) (F0 : Fld Z h0 x0 "com/example/footwise/footwise/search/Route" "nodes" "[I" (.ref y)) :
    Con l Z (⟨"com/example/footwise/footwise/search/Route", "nodes", "()[I"⟩ : MethodName) prog_42_method_7_code 1 (some (.array .int)) [] ({ frames := 0, cells := 0, slots := 0, locals := 0 } : Room) #[(.ref x0)] h0 (fun v h L => v = some (.ref y) ∧ Fr n0 L ∧ h = h0) := by
  refine Con.of (plainFor_of_name pn_1) ?_
  intro p e s m below meth c s₁ X0 hx hby hml hown hnm hret hlk hZ e0
  refine End.cast ?_ (ef_8 m x0)
  have N0 := Fr.nil n0
  refine k_aloadN X0 hx (q := 1) rfl (hb hby d8_0) rfl rfl ?_
  refine k_getF X0 hx hZ (host := "") hown (Or.inl (hw _ (List.mem_of_getElem? (i := 19) rfl))) Via.refl e0 (q := 4) rfl (hb hby d8_1) F0 ?_
  intro T1 X1 e1
  exact k_retA X1 hx hlk (by decide) (by decide) hret rfl rfl (hb hby d8_4) ⟨rfl, N0, e1⟩
theorem d9_0 : decode method_3_code 0 = .ok (.iload 4, 2) := by decide +kernel
theorem d9_2 : decode method_3_code 2 = .ok (.ifCond .ne 6, 3) := by decide +kernel
theorem d9_5 : decode method_3_code 5 = .ok (.iload_n 0, 1) := by decide +kernel
theorem d9_6 : decode method_3_code 6 = .ok (.i2d, 1) := by decide +kernel
theorem d9_7 : decode method_3_code 7 = .ok (.dreturn, 1) := by decide +kernel
theorem d9_8 : decode method_3_code 8 = .ok (.iload 4, 2) := by decide +kernel
theorem d9_10 : decode method_3_code 10 = .ok (.iconst 1, 1) := by decide +kernel
theorem d9_11 : decode method_3_code 11 = .ok (.if_icmp .ne 6, 3) := by decide +kernel
theorem d9_14 : decode method_3_code 14 = .ok (.iload_n 1, 1) := by decide +kernel
theorem d9_15 : decode method_3_code 15 = .ok (.i2d, 1) := by decide +kernel
theorem d9_16 : decode method_3_code 16 = .ok (.dreturn, 1) := by decide +kernel
theorem d9_17 : decode method_3_code 17 = .ok (.iload 4, 2) := by decide +kernel
theorem d9_19 : decode method_3_code 19 = .ok (.iconst 2, 1) := by decide +kernel
theorem d9_20 : decode method_3_code 20 = .ok (.if_icmp .ne 6, 3) := by decide +kernel
theorem d9_23 : decode method_3_code 23 = .ok (.iload_n 2, 1) := by decide +kernel
theorem d9_24 : decode method_3_code 24 = .ok (.i2d, 1) := by decide +kernel
theorem d9_25 : decode method_3_code 25 = .ok (.dreturn, 1) := by decide +kernel
theorem d9_26 : decode method_3_code 26 = .ok (.iload_n 3, 1) := by decide +kernel
theorem d9_27 : decode method_3_code 27 = .ok (.i2d, 1) := by decide +kernel
theorem d9_28 : decode method_3_code 28 = .ok (.dreturn, 1) := by decide +kernel
theorem ef_9 (m : MethodId) (x0 : Int32) (x1 : Int32) (x2 : Int32) (x3 : Int32) (x4 : Int32) : entryFrame m #[(.int x0), (.int x1), (.int x2), (.int x3), (.int x4)] 5 = mkF m 0 #[.val (.int x0), .val (.int x1), .val (.int x2), .val (.int x3), .val (.int x4)] [] := by first | (simp [entryFrame, mkF, argsToLocals, Value.category]; done) | rfl
def f9 (x0 : Int32) (x1 : Int32) (x2 : Int32) (x3 : Int32) (x4 : Int32) : UInt64 := (if x4 = (0 : Int32) then (FP.i2d x0) else (if x4 = (1 : Int32) then (FP.i2d x1) else (if x4 = (2 : Int32) then (FP.i2d x2) else (FP.i2d x3))))
set_option maxRecDepth 65536 in
set_option maxHeartbeats 40000000 in
theorem rm9 (l : Launch) (Z : State) (a0 : Array Value) (hw : ∀ d ∈ tables_1, d.before a0 Z = true) (x0 : Int32) (x1 : Int32) (x2 : Int32) (x3 : Int32) (x4 : Int32) (h0 : Heap) (n0 : Nat) :
    Con l Z (⟨"com/example/footwise/footwise/search/RouteOfPinLaw", "pick", "(IIIII)D"⟩ : MethodName) method_3_code 5 (some .double) [] ({ frames := 0, cells := 0, slots := 0, locals := 0 } : Room) #[(.int x0), (.int x1), (.int x2), (.int x3), (.int x4)] h0 (fun v h L => v = some (.double (f9 x0 x1 x2 x3 x4)) ∧ Fr n0 L ∧ h = h0) := by
  refine Con.of (plainFor_of_name pn_2) ?_
  intro p e s m below meth c s₁ X0 hx hby hml hown hnm hret hlk hZ e0
  refine End.cast ?_ (ef_9 m x0 x1 x2 x3 x4)
  have N0 := Fr.nil n0
  refine k_iload X0 hx (q := 2) rfl (hb hby d9_0) rfl ?_
  refine k_if_ne X0 hx (q1 := 8) (q := 5) (by decide) (by decide) rfl (hb hby d9_2) (fun hc1 => ?_) (fun hc1 => ?_)
  · refine k_iload X0 hx (q := 10) rfl (hb hby d9_8) rfl ?_
    refine k_iconst X0 hx (v := (1 : Int32)) rfl (q := 11) rfl (hb hby d9_10) ?_
    refine k_icmp_ne X0 hx (q1 := 17) (q := 14) (by decide) (by decide) rfl (hb hby d9_11) (fun hc2 => ?_) (fun hc2 => ?_)
    · refine k_iload X0 hx (q := 19) rfl (hb hby d9_17) rfl ?_
      refine k_iconst X0 hx (v := (2 : Int32)) rfl (q := 20) rfl (hb hby d9_19) ?_
      refine k_icmp_ne X0 hx (q1 := 26) (q := 23) (by decide) (by decide) rfl (hb hby d9_20) (fun hc3 => ?_) (fun hc3 => ?_)
      · refine k_iloadN X0 hx (q := 27) rfl (hb hby d9_26) rfl ?_
        refine k_i2d X0 hx (q := 28) rfl (hb hby d9_27) ?_
        exact k_retD X0 hx hlk (by decide) (by decide) hret (hb hby d9_28) ⟨retD_eq ((((rfl : f9 x0 x1 x2 x3 x4 = _).trans (if_neg hc1)).trans (if_neg hc2)).trans (if_neg hc3)), N0, e0⟩
      · refine k_iloadN X0 hx (q := 24) rfl (hb hby d9_23) rfl ?_
        refine k_i2d X0 hx (q := 25) rfl (hb hby d9_24) ?_
        exact k_retD X0 hx hlk (by decide) (by decide) hret (hb hby d9_25) ⟨retD_eq ((((rfl : f9 x0 x1 x2 x3 x4 = _).trans (if_neg hc1)).trans (if_neg hc2)).trans (if_pos hc3)), N0, e0⟩
    · refine k_iloadN X0 hx (q := 15) rfl (hb hby d9_14) rfl ?_
      refine k_i2d X0 hx (q := 16) rfl (hb hby d9_15) ?_
      exact k_retD X0 hx hlk (by decide) (by decide) hret (hb hby d9_16) ⟨retD_eq (((rfl : f9 x0 x1 x2 x3 x4 = _).trans (if_neg hc1)).trans (if_pos hc2)), N0, e0⟩
  · refine k_iloadN X0 hx (q := 6) rfl (hb hby d9_5) rfl ?_
    refine k_i2d X0 hx (q := 7) rfl (hb hby d9_6) ?_
    exact k_retD X0 hx hlk (by decide) (by decide) hret (hb hby d9_7) ⟨retD_eq ((rfl : f9 x0 x1 x2 x3 x4 = _).trans (if_pos hc1)), N0, e0⟩
theorem d1_0 : decode prog_42_method_2_code 0 = .ok (.dconst 0, 1) := by decide +kernel
theorem d1_1 : decode prog_42_method_2_code 1 = .ok (.dstore_n 3, 1) := by decide +kernel
theorem d1_2 : decode prog_42_method_2_code 2 = .ok (.aload_n 1, 1) := by decide +kernel
theorem d1_3 : decode prog_42_method_2_code 3 = .ok (.astore 5, 2) := by decide +kernel
theorem d1_5 : decode prog_42_method_2_code 5 = .ok (.aload 5, 2) := by decide +kernel
theorem d1_7 : decode prog_42_method_2_code 7 = .ok (.arraylength, 1) := by decide +kernel
theorem d1_8 : decode prog_42_method_2_code 8 = .ok (.istore 6, 2) := by decide +kernel
theorem d1_10 : decode prog_42_method_2_code 10 = .ok (.iconst 0, 1) := by decide +kernel
theorem d1_11 : decode prog_42_method_2_code 11 = .ok (.istore 7, 2) := by decide +kernel
theorem d1_13 : decode prog_42_method_2_code 13 = .ok (.iload 7, 2) := by decide +kernel
theorem d1_15 : decode prog_42_method_2_code 15 = .ok (.iload 6, 2) := by decide +kernel
theorem d1_17 : decode prog_42_method_2_code 17 = .ok (.if_icmp .ge 23, 3) := by decide +kernel
theorem d1_20 : decode prog_42_method_2_code 20 = .ok (.aload 5, 2) := by decide +kernel
theorem d1_22 : decode prog_42_method_2_code 22 = .ok (.iload 7, 2) := by decide +kernel
theorem d1_24 : decode prog_42_method_2_code 24 = .ok (.iaload, 1) := by decide +kernel
theorem d1_25 : decode prog_42_method_2_code 25 = .ok (.istore 8, 2) := by decide +kernel
theorem d1_27 : decode prog_42_method_2_code 27 = .ok (.dload_n 3, 1) := by decide +kernel
theorem d1_28 : decode prog_42_method_2_code 28 = .ok (.aload_n 2, 1) := by decide +kernel
theorem d1_29 : decode prog_42_method_2_code 29 = .ok (.iload 8, 2) := by decide +kernel
theorem d1_31 : decode prog_42_method_2_code 31 = .ok (.daload, 1) := by decide +kernel
theorem d1_32 : decode prog_42_method_2_code 32 = .ok (.dadd, 1) := by decide +kernel
theorem d1_33 : decode prog_42_method_2_code 33 = .ok (.dstore_n 3, 1) := by decide +kernel
theorem d1_34 : decode prog_42_method_2_code 34 = .ok (.iinc 7 1, 3) := by decide +kernel
theorem d1_37 : decode prog_42_method_2_code 37 = .ok (.goto (-24), 3) := by decide +kernel
theorem d1_40 : decode prog_42_method_2_code 40 = .ok (.new 8, 3) := by decide +kernel
theorem d1_43 : decode prog_42_method_2_code 43 = .ok (.dup, 1) := by decide +kernel
theorem d1_44 : decode prog_42_method_2_code 44 = .ok (.aload_n 0, 1) := by decide +kernel
theorem d1_45 : decode prog_42_method_2_code 45 = .ok (.aload_n 1, 1) := by decide +kernel
theorem d1_46 : decode prog_42_method_2_code 46 = .ok (.dload_n 3, 1) := by decide +kernel
theorem d1_47 : decode prog_42_method_2_code 47 = .ok (.invokespecial 20, 3) := by decide +kernel
theorem d1_50 : decode prog_42_method_2_code 50 = .ok (.areturn, 1) := by decide +kernel
theorem ef_1 (m : MethodId) (x0 : Addr) (x1 : Addr) (x2 : Addr) : entryFrame m #[(.ref x0), (.ref x1), (.ref x2)] 9 = mkF m 0 #[.val (.ref x0), .val (.ref x1), .val (.ref x2), .unset, .unset, .unset, .unset, .unset, .unset] [] := by first | (simp [entryFrame, mkF, argsToLocals, Value.category]; done) | rfl
set_option maxRecDepth 65536 in
set_option maxHeartbeats 40000000 in
theorem rm1 (l : Launch) (Z : State) (a0 : Array Value) (hw : ∀ d ∈ tables_1, d.before a0 Z = true) (x0 : Addr) (x1 : Addr) (x2 : Addr) (h0 : Heap) (n0 : Nat) (Z0 : n0 ≤ h0.size) (k : Nat) (hk3 : k ≤ 3) (sc : Nat → Int32) (si : Nat → Nat) (hsc : ∀ t, t < k → Ix (sc t) (si t) ∧ si t < 4) (c : Nat → Int32) (VS : Ary Z h0 x1 .int k (fun t => .int (sc t))) (VC : Ary Z h0 x2 .double 4 (fun t => .double (FP.i2d (c t)))) :
    Con l Z (⟨"com/example/footwise/footwise/search/Route", "of", "([I[I[D)Lcom/example/footwise/footwise/search/Route;"⟩ : MethodName) prog_42_method_2_code 9 (some (.object "com/example/footwise/footwise/search/Route")) [] ({ frames := 3, cells := 1, slots := 3, locals := 41 } : Room) #[(.ref x0), (.ref x1), (.ref x2)] h0 (fun v h L => ∃ a : Addr, v = some (.ref a) ∧ Fr n0 L ∧ Keep h0 h [] ∧ h0.size ≤ a ∧ Exa Z h a "com/example/footwise/footwise/search/Route" ∧ Fld Z h a "com/example/footwise/footwise/search/Route" "nodes" "[I" (.ref x0) ∧ Fld Z h a "com/example/footwise/footwise/search/Route" "sections" "[I" (.ref x1) ∧ Fld Z h a "com/example/footwise/footwise/search/Route" "cost" "D" (.double (FP.l2d (own_sum c si k)))) := by
  refine Con.of (plainFor_of_name pn_1) ?_
  intro p e s m below meth c_ s₁ X0 hx hby hml hown hnm hret hlk hZ e0
  refine End.cast ?_ (ef_1 m x0 x1 x2)
  have N0 := Fr.nil n0
  refine k_dconst0 X0 hx (q := 1) rfl (hb hby d1_0) (v := (0 : UInt64)) (by decide) ?_
  refine k_dstoreN X0 hx (L' := #[.val (.ref x0), .val (.ref x1), .val (.ref x2), .val (.double (0 : UInt64)), .second, .unset, .unset, .unset, .unset]) (q := 2) rfl (hb hby d1_1) rfl ?_
  refine k_aloadN X0 hx (q := 3) rfl (hb hby d1_2) rfl rfl ?_
  refine k_astore X0 hx (L' := #[.val (.ref x0), .val (.ref x1), .val (.ref x2), .val (.double (0 : UInt64)), .second, .val (.ref x1), .unset, .unset, .unset]) (q := 5) rfl (hb hby d1_3) rfl rfl ?_
  refine k_aload X0 hx (q := 7) rfl (hb hby d1_5) rfl rfl ?_
  refine k_al X0 hx hZ e0 (z := k.toInt32) (q := 8) rfl (hb hby d1_7) VS rfl ?_
  have hlen := own_nat (k := k) (Nat.lt_of_le_of_lt hk3 (by decide))
  refine k_istore X0 hx (L' := #[.val (.ref x0), .val (.ref x1), .val (.ref x2), .val (.double (0 : UInt64)), .second, .val (.ref x1), .val (.int k.toInt32), .unset, .unset]) (q := 10) rfl (hb hby d1_8) rfl ?_
  generalize hl : k.toInt32 = len
  rw [hl] at hlen
  refine k_iconst X0 hx (v := (0 : Int32)) rfl (q := 11) rfl (hb hby d1_10) ?_
  refine k_istore X0 hx (L' := #[.val (.ref x0), .val (.ref x1), .val (.ref x2), .val (.double (0 : UInt64)), .second, .val (.ref x1), .val (.int len), .val (.int (0 : Int32)), .unset]) (q := 13) rfl (hb hby d1_11) rfl ?_
  have loop : ∀ (d i : Nat) (i' : Int32) (sm : UInt64) (u : Slot), k - i < d → Ix i' i → i ≤ k → sm = FP.l2d (own_sum c si i) → One u → End p e below s (fun v h L => ∃ a : Addr, v = some (.ref a) ∧ Fr n0 L ∧ Keep h0 h [] ∧ h0.size ≤ a ∧ Exa Z h a "com/example/footwise/footwise/search/Route" ∧ Fld Z h a "com/example/footwise/footwise/search/Route" "nodes" "[I" (.ref x0) ∧ Fld Z h a "com/example/footwise/footwise/search/Route" "sections" "[I" (.ref x1) ∧ Fld Z h a "com/example/footwise/footwise/search/Route" "cost" "D" (.double (FP.l2d (own_sum c si k)))) 1 3 (s₁.setTop (mkF m 13 #[.val (.ref x0), .val (.ref x1), .val (.ref x2), .val (.double sm), .second, .val (.ref x1), .val (.int len), .val (.int i'), u] [])) := by
    intro d
    induction d with
    | zero => intro i i' sm u h; omega
    | succ d ih =>
      intro i i' sm u hd hi hle hsm hu
      refine k_iload X0 hx (q := 15) rfl (hb hby d1_13) rfl ?_
      refine k_iload X0 hx (q := 17) rfl (hb hby d1_15) rfl ?_
      refine k_icmp_ge X0 hx (q1 := 40) (q := 20) (by decide) (by decide) rfl (hb hby d1_17) (fun hc1 => ?_) (fun hc1 => ?_)
      · have hik : i = k := by
          have := mt (own_lt hi hlen).mpr hc1; omega
        rw [hik] at hsm
        refine k_new X0 hx hZ hown (hw _ (List.mem_of_getElem? (i := 6) rfl)) (hw _ (List.mem_of_getElem? (i := 7) rfl)) (hw _ (List.mem_of_getElem? (i := 4) rfl)) e0 (q := 43) rfl (hb hby d1_40) (by decide) (by decide) ?_
        intro T2 h2 ra X2 e2 g2 E2 A2 D2
        have K2 := Keep.of_ext E2
        have F3 : Fld Z h2 ra "com/example/footwise/footwise/search/Route" "nodes" "[I" .null := D2 (Or.inr (hw _ (List.mem_of_getElem? (i := 20) rfl))) (ty := (.array .int)) (by decide)
        have F4 : Fld Z h2 ra "com/example/footwise/footwise/search/Route" "sections" "[I" .null := D2 (Or.inr (hw _ (List.mem_of_getElem? (i := 22) rfl))) (ty := (.array .int)) (by decide)
        have F5 : Fld Z h2 ra "com/example/footwise/footwise/search/Route" "cost" "D" (.double (0 : UInt64)) := D2 (Or.inr (hw _ (List.mem_of_getElem? (i := 24) rfl))) (ty := .double) (by decide)
        refine k_dup X2 hx (q := 44) rfl (hb hby d1_43) rfl ?_
        refine k_aloadN X2 hx (q := 45) rfl (hb hby d1_44) rfl rfl ?_
        refine k_aloadN X2 hx (q := 46) rfl (hb hby d1_45) rfl rfl ?_
        refine k_dloadN X2 hx (q := 47) rfl (hb hby d1_46) rfl ?_
        have ge_ra : n0 ≤ ra := Nat.le_trans Z0 (Nat.le_of_eq g2.symm)
        refine k_callI X2 hx hZ (y := (⟨"com/example/footwise/footwise/search/Route", "<init>", "([I[ID)V"⟩ : MethodName)) hown rfl (hw _ (List.mem_of_getElem? (i := 8) rfl)) (hw _ (List.mem_of_getElem? (i := 9) rfl)) (hw _ (List.mem_of_getElem? (i := 4) rfl)) (hw _ (List.mem_of_getElem? (i := 10) rfl)) (by decide) 1 e2 (rm2 l Z a0 hw ra x0 x1 sm h2 n0 ge_ra A2 F3 F4 F5) (by decide) (by decide) (by decide) (by decide) (by rw [hml]; rfl) (a := ra) (as := [(.ref x0), (.ref x1), (.double sm)]) (rest := [(.ref ra)]) pd_1 rfl (by first | exact Nat.le_refl _ | simp [Value.category]) (q := 50) rfl (hb hby d1_47) ?_
        rintro _ T6 L6 X6 ⟨rfl, N6q, K6, Fn6, Fs6, Fc6⟩
        have N6 := Fr.app N0 N6q
        show End _ _ _ _ _ _ _ (T6.setTop (mkF m 50 #[.val (.ref x0), .val (.ref x1), .val (.ref x2), .val (.double sm), .second, .val (.ref x1), .val (.int len), .val (.int i'), u] [(.ref ra)]))
        have Kp7 : Keep h0 h2 [] := Keep.trans (Keep.refl h0 []) K2 all0
        have Kp8 : Keep h0 T6.heap [] := Keep.trans Kp7 K6 (allS (Or.inr (Nat.le_trans (Keep.refl h0 []).1 (Nat.le_of_eq g2.symm))) all0)
        have G9 := (A2.keep K6)
        exact k_retA X6 hx hlk (by decide) (by decide) hret rfl rfl (hb hby d1_50) ⟨ra, rfl, N6, Kp8, (Nat.le_of_eq g2.symm), G9, Fn6, Fs6, hsm ▸ Fc6⟩
      · have hik := (own_lt hi hlen).mp hc1
        refine k_aload X0 hx (q := 22) rfl (hb hby d1_20) rfl rfl ?_
        refine k_iload X0 hx (q := 24) rfl (hb hby d1_22) rfl ?_
        refine k_arI X0 hx hZ e0 (x := (.int (sc i))) i (q := 25) rfl (hb hby d1_24) VS hi hik rfl ?_
        refine k_istore X0 hx (L' := #[.val (.ref x0), .val (.ref x1), .val (.ref x2), .val (.double sm), .second, .val (.ref x1), .val (.int len), .val (.int i'), .val (.int (sc i))]) (q := 27) rfl (hb hby d1_25) (os1_25_0 hu) ?_
        refine k_dloadN X0 hx (q := 28) rfl (hb hby d1_27) rfl ?_
        refine k_aloadN X0 hx (q := 29) rfl (hb hby d1_28) rfl rfl ?_
        refine k_iload X0 hx (q := 31) rfl (hb hby d1_29) rfl ?_
        refine k_arD X0 hx hZ e0 (x := (.double (FP.i2d (c (si i))))) (si i) (q := 32) rfl (hb hby d1_31) VC (hsc i hik).1 (hsc i hik).2 rfl ?_
        have hadd := own_add c si (i := i) (by omega)
        refine k_dadd X0 hx (q := 33) rfl (hb hby d1_32) (v := FP.l2d (own_sum c si (i + 1))) (by rw [hsm]; exact Jvm.RoadKit.nn_w hadd) (by rw [hsm]; exact hadd) ?_
        refine k_dstoreN X0 hx (L' := #[.val (.ref x0), .val (.ref x1), .val (.ref x2), .val (.double (FP.l2d (own_sum c si (i + 1)))), .second, .val (.ref x1), .val (.int len), .val (.int i'), .val (.int (sc i))]) (q := 34) rfl (hb hby d1_33) rfl ?_
        refine k_iinc X0 hx (L' := #[.val (.ref x0), .val (.ref x1), .val (.ref x2), .val (.double (FP.l2d (own_sum c si (i + 1)))), .second, .val (.ref x1), .val (.int len), .val (.int (i' + (1 : Int32))), .val (.int (sc i))]) (q := 37) rfl (hb hby d1_34) rfl rfl ?_
        refine k_goto X0 hx (q := 13) (by decide) (by decide) (hb hby d1_37) ?_
        exact ih (i + 1) _ _ _ (by omega) (own_up hi (by omega)) (by omega) rfl (One.val rfl)
  exact loop (k + 1) 0 _ _ _ (by omega) ⟨by decide, by decide⟩ (by omega) Jvm.RoadKit.l2d_zero.symm One.u
theorem d7_0 : decode method_4_code 0 = .ok (.aload_n 0, 1) := by decide +kernel
theorem d7_1 : decode method_4_code 1 = .ok (.ifnull 9, 3) := by decide +kernel
theorem d7_4 : decode method_4_code 4 = .ok (.aload_n 0, 1) := by decide +kernel
theorem d7_5 : decode method_4_code 5 = .ok (.arraylength, 1) := by decide +kernel
theorem d7_6 : decode method_4_code 6 = .ok (.iload_n 2, 1) := by decide +kernel
theorem d7_7 : decode method_4_code 7 = .ok (.if_icmp .eq 5, 3) := by decide +kernel
theorem d7_12 : decode method_4_code 12 = .ok (.iload_n 2, 1) := by decide +kernel
theorem d7_13 : decode method_4_code 13 = .ok (.iconst 1, 1) := by decide +kernel
theorem d7_14 : decode method_4_code 14 = .ok (.if_icmp .lt 14, 3) := by decide +kernel
theorem d7_17 : decode method_4_code 17 = .ok (.aload_n 0, 1) := by decide +kernel
theorem d7_18 : decode method_4_code 18 = .ok (.iconst 0, 1) := by decide +kernel
theorem d7_19 : decode method_4_code 19 = .ok (.iaload, 1) := by decide +kernel
theorem d7_20 : decode method_4_code 20 = .ok (.aload_n 1, 1) := by decide +kernel
theorem d7_21 : decode method_4_code 21 = .ok (.iconst 0, 1) := by decide +kernel
theorem d7_22 : decode method_4_code 22 = .ok (.iaload, 1) := by decide +kernel
theorem d7_23 : decode method_4_code 23 = .ok (.if_icmp .eq 5, 3) := by decide +kernel
theorem d7_28 : decode method_4_code 28 = .ok (.iload_n 2, 1) := by decide +kernel
theorem d7_29 : decode method_4_code 29 = .ok (.iconst 2, 1) := by decide +kernel
theorem d7_30 : decode method_4_code 30 = .ok (.if_icmp .lt 14, 3) := by decide +kernel
theorem d7_33 : decode method_4_code 33 = .ok (.aload_n 0, 1) := by decide +kernel
theorem d7_34 : decode method_4_code 34 = .ok (.iconst 1, 1) := by decide +kernel
theorem d7_35 : decode method_4_code 35 = .ok (.iaload, 1) := by decide +kernel
theorem d7_36 : decode method_4_code 36 = .ok (.aload_n 1, 1) := by decide +kernel
theorem d7_37 : decode method_4_code 37 = .ok (.iconst 1, 1) := by decide +kernel
theorem d7_38 : decode method_4_code 38 = .ok (.iaload, 1) := by decide +kernel
theorem d7_39 : decode method_4_code 39 = .ok (.if_icmp .eq 5, 3) := by decide +kernel
theorem d7_44 : decode method_4_code 44 = .ok (.iload_n 2, 1) := by decide +kernel
theorem d7_45 : decode method_4_code 45 = .ok (.iconst 3, 1) := by decide +kernel
theorem d7_46 : decode method_4_code 46 = .ok (.if_icmp .lt 14, 3) := by decide +kernel
theorem d7_49 : decode method_4_code 49 = .ok (.aload_n 0, 1) := by decide +kernel
theorem d7_50 : decode method_4_code 50 = .ok (.iconst 2, 1) := by decide +kernel
theorem d7_51 : decode method_4_code 51 = .ok (.iaload, 1) := by decide +kernel
theorem d7_52 : decode method_4_code 52 = .ok (.aload_n 1, 1) := by decide +kernel
theorem d7_53 : decode method_4_code 53 = .ok (.iconst 2, 1) := by decide +kernel
theorem d7_54 : decode method_4_code 54 = .ok (.iaload, 1) := by decide +kernel
theorem d7_55 : decode method_4_code 55 = .ok (.if_icmp .eq 5, 3) := by decide +kernel
theorem d7_60 : decode method_4_code 60 = .ok (.iload_n 2, 1) := by decide +kernel
theorem d7_61 : decode method_4_code 61 = .ok (.iconst 4, 1) := by decide +kernel
theorem d7_62 : decode method_4_code 62 = .ok (.if_icmp .lt 14, 3) := by decide +kernel
theorem d7_65 : decode method_4_code 65 = .ok (.aload_n 0, 1) := by decide +kernel
theorem d7_66 : decode method_4_code 66 = .ok (.iconst 3, 1) := by decide +kernel
theorem d7_67 : decode method_4_code 67 = .ok (.iaload, 1) := by decide +kernel
theorem d7_68 : decode method_4_code 68 = .ok (.aload_n 1, 1) := by decide +kernel
theorem d7_69 : decode method_4_code 69 = .ok (.iconst 3, 1) := by decide +kernel
theorem d7_70 : decode method_4_code 70 = .ok (.iaload, 1) := by decide +kernel
theorem d7_71 : decode method_4_code 71 = .ok (.if_icmp .eq 5, 3) := by decide +kernel
theorem d7_76 : decode method_4_code 76 = .ok (.iconst 1, 1) := by decide +kernel
theorem d7_77 : decode method_4_code 77 = .ok (.ireturn, 1) := by decide +kernel
theorem ef_7 (m : MethodId) (x0 : Addr) (x1 : Addr) (x2 : Int32) : entryFrame m #[(.ref x0), (.ref x1), (.int x2)] 3 = mkF m 0 #[.val (.ref x0), .val (.ref x1), .val (.int x2)] [] := by first | (simp [entryFrame, mkF, argsToLocals, Value.category]; done) | rfl
set_option maxRecDepth 65536 in
set_option maxHeartbeats 40000000 in
theorem rm7 (l : Launch) (Z : State) (a0 : Array Value) (hw : ∀ d ∈ tables_1, d.before a0 Z = true) (x0 : Addr) (x1 : Addr) (x2 : Int32) (h0 : Heap) (n0 : Nat) (k j : Nat) (hk : Ix x2 k) (hlen : k.toInt32 = x2) (hkj : k ≤ j) (g g' : Nat → Int32) (hg : ∀ t, t < k → g t = g' t) (V0 : Ary Z h0 x0 .int k (fun t => .int (g t))) (V1 : Ary Z h0 x1 .int j (fun t => .int (g' t))) :
    Con l Z (⟨"com/example/footwise/footwise/search/RouteOfPinLaw", "same", "([I[II)Z"⟩ : MethodName) method_4_code 3 (some .boolean) [] ({ frames := 0, cells := 0, slots := 0, locals := 0 } : Room) #[(.ref x0), (.ref x1), (.int x2)] h0 (fun v h L => v = some (.int 1) ∧ Fr n0 L ∧ h = h0) := by
  refine Con.of (plainFor_of_name pn_2) ?_
  intro p e s m below meth c s₁ X0 hx hby hml hown hnm hret hlk hZ e0
  refine End.cast ?_ (ef_7 m x0 x1 x2)
  have N0 := Fr.nil n0
  refine k_aloadN X0 hx (q := 1) rfl (hb hby d7_0) rfl rfl ?_
  refine k_ifnull_n X0 hx (q := 4) rfl (hb hby d7_1) ?_
  refine k_aloadN X0 hx (q := 5) rfl (hb hby d7_4) rfl rfl ?_
  refine k_al X0 hx hZ e0 (z := x2) (q := 6) rfl (hb hby d7_5) V0 hlen ?_
  refine k_iloadN X0 hx (q := 7) rfl (hb hby d7_6) rfl ?_
  refine k_icmp_eq X0 hx (q1 := 12) (q := 10) (by decide) (by decide) rfl (hb hby d7_7) (fun _ => ?_) (fun hc => absurd rfl hc)
  have J2 : End p e below s (fun v h L => v = some (.int 1) ∧ Fr n0 L ∧ h = h0) 0 0 (s₁.setTop (mkF m 28 #[.val (.ref x0), .val (.ref x1), .val (.int x2)] [])) := by
    have J3 : End p e below s (fun v h L => v = some (.int 1) ∧ Fr n0 L ∧ h = h0) 0 0 (s₁.setTop (mkF m 44 #[.val (.ref x0), .val (.ref x1), .val (.int x2)] [])) := by
      have J4 : End p e below s (fun v h L => v = some (.int 1) ∧ Fr n0 L ∧ h = h0) 0 0 (s₁.setTop (mkF m 60 #[.val (.ref x0), .val (.ref x1), .val (.int x2)] [])) := by
        have J5 : End p e below s (fun v h L => v = some (.int 1) ∧ Fr n0 L ∧ h = h0) 0 0 (s₁.setTop (mkF m 76 #[.val (.ref x0), .val (.ref x1), .val (.int x2)] [])) := by
          refine k_iconst X0 hx (v := (1 : Int32)) rfl (q := 77) rfl (hb hby d7_76) ?_
          exact k_retN X0 hx (t := .boolean) hlk (by decide) (by decide) hret (by simp) (hb hby d7_77) ⟨rfl, N0, e0⟩
        refine k_iloadN X0 hx (q := 61) rfl (hb hby d7_60) rfl ?_
        refine k_iconst X0 hx (v := (4 : Int32)) rfl (q := 62) rfl (hb hby d7_61) ?_
        refine k_icmp_lt X0 hx (q1 := 76) (q := 65) (by decide) (by decide) rfl (hb hby d7_62) (fun hc6 => ?_) (fun hc6 => ?_)
        · exact J5
        · have hi : 3 < k := by
            have := mt (own_lt (k := k) (n := 4) hk ⟨by decide, by decide⟩).mpr hc6; omega
          refine k_aloadN X0 hx (q := 66) rfl (hb hby d7_65) rfl rfl ?_
          refine k_iconst X0 hx (v := (3 : Int32)) rfl (q := 67) rfl (hb hby d7_66) ?_
          refine k_arI X0 hx hZ e0 (x := (.int (g 3))) 3 (q := 68) rfl (hb hby d7_67) V0 ⟨by decide, by decide⟩ hi rfl ?_
          refine k_aloadN X0 hx (q := 69) rfl (hb hby d7_68) rfl rfl ?_
          refine k_iconst X0 hx (v := (3 : Int32)) rfl (q := 70) rfl (hb hby d7_69) ?_
          refine k_arI X0 hx hZ e0 (x := (.int (g' 3))) 3 (q := 71) rfl (hb hby d7_70) V1 ⟨by decide, by decide⟩ (by omega) rfl ?_
          refine k_icmp_eq X0 hx (q1 := 76) (q := 74) (by decide) (by decide) rfl (hb hby d7_71) (fun _ => ?_) (fun hc => absurd (hg 3 hi) hc)
          exact J5
      refine k_iloadN X0 hx (q := 45) rfl (hb hby d7_44) rfl ?_
      refine k_iconst X0 hx (v := (3 : Int32)) rfl (q := 46) rfl (hb hby d7_45) ?_
      refine k_icmp_lt X0 hx (q1 := 60) (q := 49) (by decide) (by decide) rfl (hb hby d7_46) (fun hc8 => ?_) (fun hc8 => ?_)
      · exact J4
      · have hi : 2 < k := by
          have := mt (own_lt (k := k) (n := 3) hk ⟨by decide, by decide⟩).mpr hc8; omega
        refine k_aloadN X0 hx (q := 50) rfl (hb hby d7_49) rfl rfl ?_
        refine k_iconst X0 hx (v := (2 : Int32)) rfl (q := 51) rfl (hb hby d7_50) ?_
        refine k_arI X0 hx hZ e0 (x := (.int (g 2))) 2 (q := 52) rfl (hb hby d7_51) V0 ⟨by decide, by decide⟩ hi rfl ?_
        refine k_aloadN X0 hx (q := 53) rfl (hb hby d7_52) rfl rfl ?_
        refine k_iconst X0 hx (v := (2 : Int32)) rfl (q := 54) rfl (hb hby d7_53) ?_
        refine k_arI X0 hx hZ e0 (x := (.int (g' 2))) 2 (q := 55) rfl (hb hby d7_54) V1 ⟨by decide, by decide⟩ (by omega) rfl ?_
        refine k_icmp_eq X0 hx (q1 := 60) (q := 58) (by decide) (by decide) rfl (hb hby d7_55) (fun _ => ?_) (fun hc => absurd (hg 2 hi) hc)
        exact J4
    refine k_iloadN X0 hx (q := 29) rfl (hb hby d7_28) rfl ?_
    refine k_iconst X0 hx (v := (2 : Int32)) rfl (q := 30) rfl (hb hby d7_29) ?_
    refine k_icmp_lt X0 hx (q1 := 44) (q := 33) (by decide) (by decide) rfl (hb hby d7_30) (fun hc10 => ?_) (fun hc10 => ?_)
    · exact J3
    · have hi : 1 < k := by
        have := mt (own_lt (k := k) (n := 2) hk ⟨by decide, by decide⟩).mpr hc10; omega
      refine k_aloadN X0 hx (q := 34) rfl (hb hby d7_33) rfl rfl ?_
      refine k_iconst X0 hx (v := (1 : Int32)) rfl (q := 35) rfl (hb hby d7_34) ?_
      refine k_arI X0 hx hZ e0 (x := (.int (g 1))) 1 (q := 36) rfl (hb hby d7_35) V0 ⟨by decide, by decide⟩ hi rfl ?_
      refine k_aloadN X0 hx (q := 37) rfl (hb hby d7_36) rfl rfl ?_
      refine k_iconst X0 hx (v := (1 : Int32)) rfl (q := 38) rfl (hb hby d7_37) ?_
      refine k_arI X0 hx hZ e0 (x := (.int (g' 1))) 1 (q := 39) rfl (hb hby d7_38) V1 ⟨by decide, by decide⟩ (by omega) rfl ?_
      refine k_icmp_eq X0 hx (q1 := 44) (q := 42) (by decide) (by decide) rfl (hb hby d7_39) (fun _ => ?_) (fun hc => absurd (hg 1 hi) hc)
      exact J3
  refine k_iloadN X0 hx (q := 13) rfl (hb hby d7_12) rfl ?_
  refine k_iconst X0 hx (v := (1 : Int32)) rfl (q := 14) rfl (hb hby d7_13) ?_
  refine k_icmp_lt X0 hx (q1 := 28) (q := 17) (by decide) (by decide) rfl (hb hby d7_14) (fun hc12 => ?_) (fun hc12 => ?_)
  · exact J2
  · have hi : 0 < k := by
      have := mt (own_lt (k := k) (n := 1) hk ⟨by decide, by decide⟩).mpr hc12; omega
    refine k_aloadN X0 hx (q := 18) rfl (hb hby d7_17) rfl rfl ?_
    refine k_iconst X0 hx (v := (0 : Int32)) rfl (q := 19) rfl (hb hby d7_18) ?_
    refine k_arI X0 hx hZ e0 (x := (.int (g 0))) 0 (q := 20) rfl (hb hby d7_19) V0 ⟨by decide, by decide⟩ hi rfl ?_
    refine k_aloadN X0 hx (q := 21) rfl (hb hby d7_20) rfl rfl ?_
    refine k_iconst X0 hx (v := (0 : Int32)) rfl (q := 22) rfl (hb hby d7_21) ?_
    refine k_arI X0 hx hZ e0 (x := (.int (g' 0))) 0 (q := 23) rfl (hb hby d7_22) V1 ⟨by decide, by decide⟩ (by omega) rfl ?_
    refine k_icmp_eq X0 hx (q1 := 28) (q := 26) (by decide) (by decide) rfl (hb hby d7_23) (fun _ => ?_) (fun hc => absurd (hg 0 hi) hc)
    exact J2
theorem own_mask3 (x : Int32) : ∃ t, t < 4 ∧ Ix (x &&& (3 : Int32)) t := by
  have e := c_mask x 3 2 (by decide) (by decide)
  have : ((2 ^ 2 : Nat) : Int) = 4 := by decide
  rw [this] at e
  refine ⟨(x &&& (3 : Int32)).toInt.toNat, ?_, Ix.of ?_⟩ <;> omega
theorem own_pick (c0 c1 c2 c3 : Int32) {s : Int32} {t : Nat} (h : Ix s t) (ht : t < 4) : f9 c0 c1 c2 c3 s = FP.i2d (own_of c0 c1 c2 c3 0 t) := by
  have e : s = Int32.ofInt s.toInt := (Int32.ofInt_toInt s).symm
  rw [h.int] at e
  have : t = 0 ∨ t = 1 ∨ t = 2 ∨ t = 3 := by omega
  rcases this with rfl | rfl | rfl | rfl <;> subst e <;> rfl
theorem ef_0 (m : MethodId) (x0 : Int32) (x1 : Int32) (x2 : Int32) (x3 : Int32) (x4 : Int32) (x5 : Int32) : entryFrame m #[(.int x0), (.int x1), (.int x2), (.int x3), (.int x4), (.int x5)] maxLocals = mkF m 0 #[.val (.int x0), .val (.int x1), .val (.int x2), .val (.int x3), .val (.int x4), .val (.int x5), .unset, .unset, .unset, .unset, .unset, .unset, .unset, .unset, .unset, .unset, .unset, .unset, .unset, .unset, .unset, .unset] [] := by first | (simp [entryFrame, mkF, argsToLocals, Value.category, maxLocals]; done) | rfl
set_option maxRecDepth 65536 in
set_option maxHeartbeats 40000000 in
theorem rmL (l : Launch) (Z : State) (a0 : Array Value) (hw : ∀ d ∈ tables_1, d.before a0 Z = true) (x0 : Int32) (x1 : Int32) (x2 : Int32) (x3 : Int32) (x4 : Int32) (x5 : Int32) (h0 : Heap) (n0 : Nat) (Z0 : n0 ≤ h0.size) :
    Con l Z x code maxLocals ret tables_1 room_1 #[(.int x0), (.int x1), (.int x2), (.int x3), (.int x4), (.int x5)] h0 (fun v h L => v = some (.int 1) ∧ Fr n0 L) := by
  refine Con.of (plainFor_of_name pn_2) ?_
  intro p e s m below meth c s₁ X0 hx hby hml hown hnm hret hlk hZ e0
  refine End.cast ?_ (ef_0 m x0 x1 x2 x3 x4 x5)
  have N0 := Fr.nil n0
  refine k_iconst X0 hx (v := (4 : Int32)) rfl (q := 1) rfl (hb hby at_0) ?_
  refine k_newP X0 hx hZ (hw _ (List.mem_of_getElem? (i := 0) rfl)) e0 (q := 3) rfl (hb hby at_1) (by decide) (cap := 4) (by decide) (by decide) (by decide) (by decide) ?_
  intro T1 h1 ca k1 X1 e1 g1 E1 A1
  have K1 := Keep.of_ext E1
  have V1 : Ary Z h1 ca .double 4 (fun _ => .double (0 : UInt64)) := Ary.new A1 (by decide) rfl
  refine k_dup X1 hx (q := 4) rfl (hb hby at_3) rfl ?_
  refine k_iconst X1 hx (v := (0 : Int32)) rfl (q := 5) rfl (hb hby at_4) ?_
  refine k_iloadN X1 hx (q := 6) rfl (hb hby at_5) rfl ?_
  refine k_i2d X1 hx (q := 7) rfl (hb hby at_6) ?_
  have ge_ca : n0 ≤ ca := Nat.le_trans Z0 (Nat.le_of_eq g1.symm)
  refine k_asD X1 hx hZ e1 0 (q := 8) rfl (hb hby at_7) V1 ⟨by decide, by decide⟩ (by decide) ?_
  intro T2 h2 X2 e2 W2 V2
  have K2 := Keep.of_wr W2
  have N2 := Fr.snoc X2 N0 ge_ca
  refine k_dup X2 hx (q := 9) rfl (hb hby at_8) rfl ?_
  refine k_iconst X2 hx (v := (1 : Int32)) rfl (q := 10) rfl (hb hby at_9) ?_
  refine k_iloadN X2 hx (q := 11) rfl (hb hby at_10) rfl ?_
  refine k_i2d X2 hx (q := 12) rfl (hb hby at_11) ?_
  refine k_asD X2 hx hZ e2 1 (q := 13) rfl (hb hby at_12) V2 ⟨by decide, by decide⟩ (by decide) ?_
  intro T3 h3 X3 e3 W3 V3
  have K3 := Keep.of_wr W3
  have N3 := Fr.snoc X3 N2 ge_ca
  refine k_dup X3 hx (q := 14) rfl (hb hby at_13) rfl ?_
  refine k_iconst X3 hx (v := (2 : Int32)) rfl (q := 15) rfl (hb hby at_14) ?_
  refine k_iloadN X3 hx (q := 16) rfl (hb hby at_15) rfl ?_
  refine k_i2d X3 hx (q := 17) rfl (hb hby at_16) ?_
  refine k_asD X3 hx hZ e3 2 (q := 18) rfl (hb hby at_17) V3 ⟨by decide, by decide⟩ (by decide) ?_
  intro T4 h4 X4 e4 W4 V4
  have K4 := Keep.of_wr W4
  have N4 := Fr.snoc X4 N3 ge_ca
  refine k_dup X4 hx (q := 19) rfl (hb hby at_18) rfl ?_
  refine k_iconst X4 hx (v := (3 : Int32)) rfl (q := 20) rfl (hb hby at_19) ?_
  refine k_iloadN X4 hx (q := 21) rfl (hb hby at_20) rfl ?_
  refine k_i2d X4 hx (q := 22) rfl (hb hby at_21) ?_
  refine k_asD X4 hx hZ e4 3 (q := 23) rfl (hb hby at_22) V4 ⟨by decide, by decide⟩ (by decide) ?_
  intro T5 h5 X5 e5 W5 V5
  have K5 := Keep.of_wr W5
  have N5 := Fr.snoc X5 N4 ge_ca
  have Vc : Ary Z h5 ca .double 4 (fun t => .double (FP.i2d (own_of x0 x1 x2 x3 0 t))) := V5.congr fun t ht => by
    have : t = 0 ∨ t = 1 ∨ t = 2 ∨ t = 3 := by omega
    rcases this with rfl | rfl | rfl | rfl <;> rfl
  refine k_astore X5 hx (L' := #[.val (.int x0), .val (.int x1), .val (.int x2), .val (.int x3), .val (.int x4), .val (.int x5), .val (.ref ca), .unset, .unset, .unset, .unset, .unset, .unset, .unset, .unset, .unset, .unset, .unset, .unset, .unset, .unset, .unset]) (q := 25) rfl (hb hby at_23) rfl rfl ?_
  refine k_iload X5 hx (q := 27) rfl (hb hby at_25) rfl ?_
  refine k_iconst X5 hx (v := (3 : Int32)) rfl (q := 28) rfl (hb hby at_27) ?_
  refine k_iand X5 hx (q := 29) rfl (hb hby at_28) ?_
  refine k_istore X5 hx (L' := #[.val (.int x0), .val (.int x1), .val (.int x2), .val (.int x3), .val (.int x4), .val (.int x5), .val (.ref ca), .val (.int (x4 &&& (3 : Int32))), .unset, .unset, .unset, .unset, .unset, .unset, .unset, .unset, .unset, .unset, .unset, .unset, .unset, .unset]) (q := 31) rfl (hb hby at_29) rfl ?_
  obtain ⟨k, hk4, hk⟩ := own_mask3 x4
  generalize hn : (x4 &&& (3 : Int32)) = n
  rw [hn] at hk
  refine k_iload X5 hx (q := 33) rfl (hb hby at_31) rfl ?_
  refine k_iconst X5 hx (v := (2 : Int32)) rfl (q := 34) rfl (hb hby at_33) ?_
  refine k_iushr X5 hx (q := 35) rfl (hb hby at_34) ?_
  refine k_iconst X5 hx (v := (3 : Int32)) rfl (q := 36) rfl (hb hby at_35) ?_
  refine k_iand X5 hx (q := 37) rfl (hb hby at_36) ?_
  refine k_istore X5 hx (L' := #[.val (.int x0), .val (.int x1), .val (.int x2), .val (.int x3), .val (.int x4), .val (.int x5), .val (.ref ca), .val (.int n), .val (.int (((x4.toUInt32 >>> ((2 : Int32) &&& 31).toUInt32).toInt32) &&& (3 : Int32))), .unset, .unset, .unset, .unset, .unset, .unset, .unset, .unset, .unset, .unset, .unset, .unset, .unset]) (q := 39) rfl (hb hby at_37) rfl ?_
  obtain ⟨i0, hi04, hi0⟩ := own_mask3 ((x4.toUInt32 >>> ((2 : Int32) &&& 31).toUInt32).toInt32)
  generalize hs0 : (((x4.toUInt32 >>> ((2 : Int32) &&& 31).toUInt32).toInt32) &&& (3 : Int32)) = s0
  rw [hs0] at hi0
  refine k_iload X5 hx (q := 41) rfl (hb hby at_39) rfl ?_
  refine k_iconst X5 hx (v := (4 : Int32)) rfl (q := 42) rfl (hb hby at_41) ?_
  refine k_iushr X5 hx (q := 43) rfl (hb hby at_42) ?_
  refine k_iconst X5 hx (v := (3 : Int32)) rfl (q := 44) rfl (hb hby at_43) ?_
  refine k_iand X5 hx (q := 45) rfl (hb hby at_44) ?_
  refine k_istore X5 hx (L' := #[.val (.int x0), .val (.int x1), .val (.int x2), .val (.int x3), .val (.int x4), .val (.int x5), .val (.ref ca), .val (.int n), .val (.int s0), .val (.int (((x4.toUInt32 >>> ((4 : Int32) &&& 31).toUInt32).toInt32) &&& (3 : Int32))), .unset, .unset, .unset, .unset, .unset, .unset, .unset, .unset, .unset, .unset, .unset, .unset]) (q := 47) rfl (hb hby at_45) rfl ?_
  obtain ⟨i1, hi14, hi1⟩ := own_mask3 ((x4.toUInt32 >>> ((4 : Int32) &&& 31).toUInt32).toInt32)
  generalize hs1 : (((x4.toUInt32 >>> ((4 : Int32) &&& 31).toUInt32).toInt32) &&& (3 : Int32)) = s1
  rw [hs1] at hi1
  refine k_iload X5 hx (q := 49) rfl (hb hby at_47) rfl ?_
  refine k_bipush X5 hx (v := (6 : Int32)) rfl (q := 51) rfl (hb hby at_49) ?_
  refine k_iushr X5 hx (q := 52) rfl (hb hby at_51) ?_
  refine k_iconst X5 hx (v := (3 : Int32)) rfl (q := 53) rfl (hb hby at_52) ?_
  refine k_iand X5 hx (q := 54) rfl (hb hby at_53) ?_
  refine k_istore X5 hx (L' := #[.val (.int x0), .val (.int x1), .val (.int x2), .val (.int x3), .val (.int x4), .val (.int x5), .val (.ref ca), .val (.int n), .val (.int s0), .val (.int s1), .val (.int (((x4.toUInt32 >>> ((6 : Int32) &&& 31).toUInt32).toInt32) &&& (3 : Int32))), .unset, .unset, .unset, .unset, .unset, .unset, .unset, .unset, .unset, .unset, .unset]) (q := 56) rfl (hb hby at_54) rfl ?_
  obtain ⟨i2, hi24, hi2⟩ := own_mask3 ((x4.toUInt32 >>> ((6 : Int32) &&& 31).toUInt32).toInt32)
  generalize hs2 : (((x4.toUInt32 >>> ((6 : Int32) &&& 31).toUInt32).toInt32) &&& (3 : Int32)) = s2
  rw [hs2] at hi2
  refine k_iload X5 hx (q := 58) rfl (hb hby at_56) rfl ?_
  refine k_istore X5 hx (L' := #[.val (.int x0), .val (.int x1), .val (.int x2), .val (.int x3), .val (.int x4), .val (.int x5), .val (.ref ca), .val (.int n), .val (.int s0), .val (.int s1), .val (.int s2), .val (.int x5), .unset, .unset, .unset, .unset, .unset, .unset, .unset, .unset, .unset, .unset]) (q := 60) rfl (hb hby at_58) rfl ?_
  refine k_iload X5 hx (q := 62) rfl (hb hby at_60) rfl ?_
  refine k_iload X5 hx (q := 64) rfl (hb hby at_62) rfl ?_
  refine k_bipush X5 hx (v := (8 : Int32)) rfl (q := 66) rfl (hb hby at_64) ?_
  refine k_ishr X5 hx (q := 67) rfl (hb hby at_66) ?_
  refine k_ixor X5 hx (q := 68) rfl (hb hby at_67) ?_
  refine k_istore X5 hx (L' := #[.val (.int x0), .val (.int x1), .val (.int x2), .val (.int x3), .val (.int x4), .val (.int x5), .val (.ref ca), .val (.int n), .val (.int s0), .val (.int s1), .val (.int s2), .val (.int x5), .val (.int (x5 ^^^ (x4 >>> ((8 : Int32) &&& 31)))), .unset, .unset, .unset, .unset, .unset, .unset, .unset, .unset, .unset]) (q := 70) rfl (hb hby at_68) rfl ?_
  refine k_iload X5 hx (q := 72) rfl (hb hby at_70) rfl ?_
  refine k_iconst X5 hx (v := (-1 : Int32)) rfl (q := 73) rfl (hb hby at_72) ?_
  refine k_ixor X5 hx (q := 74) rfl (hb hby at_73) ?_
  refine k_istore X5 hx (L' := #[.val (.int x0), .val (.int x1), .val (.int x2), .val (.int x3), .val (.int x4), .val (.int x5), .val (.ref ca), .val (.int n), .val (.int s0), .val (.int s1), .val (.int s2), .val (.int x5), .val (.int (x5 ^^^ (x4 >>> ((8 : Int32) &&& 31)))), .val (.int (x5 ^^^ (-1 : Int32))), .unset, .unset, .unset, .unset, .unset, .unset, .unset, .unset]) (q := 76) rfl (hb hby at_74) rfl ?_
  refine k_iload X5 hx (q := 78) rfl (hb hby at_76) rfl ?_
  refine k_iload X5 hx (q := 80) rfl (hb hby at_78) rfl ?_
  refine k_iadd X5 hx (q := 81) rfl (hb hby at_80) ?_
  refine k_istore X5 hx (L' := #[.val (.int x0), .val (.int x1), .val (.int x2), .val (.int x3), .val (.int x4), .val (.int x5), .val (.ref ca), .val (.int n), .val (.int s0), .val (.int s1), .val (.int s2), .val (.int x5), .val (.int (x5 ^^^ (x4 >>> ((8 : Int32) &&& 31)))), .val (.int (x5 ^^^ (-1 : Int32))), .val (.int (x5 + x4)), .unset, .unset, .unset, .unset, .unset, .unset, .unset]) (q := 83) rfl (hb hby at_81) rfl ?_
  generalize hm1 : (x5 ^^^ (x4 >>> ((8 : Int32) &&& 31))) = m1
  generalize hm2 : (x5 ^^^ (-1 : Int32)) = m2
  generalize hm3 : (x5 + x4) = m3
  obtain ⟨si, hsi⟩ : ∃ si : Nat → Nat, si = fun t => if t = 0 then i0 else if t = 1 then i1 else i2 := ⟨_, rfl⟩
  have hsc : ∀ t, t < 3 → Ix (own_of s0 s1 s2 0 0 t) (si t) ∧ si t < 4 := by
    intro t ht
    have : t = 0 ∨ t = 1 ∨ t = 2 := by omega
    rw [hsi]
    rcases this with rfl | rfl | rfl
    · exact ⟨hi0, hi04⟩
    · exact ⟨hi1, hi14⟩
    · exact ⟨hi2, hi24⟩
  refine k_iload X5 hx (q := 85) rfl (hb hby at_83) rfl ?_
  refine k_if_ne X5 hx (q1 := 106) (q := 88) (by decide) (by decide) rfl (hb hby at_85) (fun hc6 => ?_) (fun hc6 => ?_)
  · refine k_iload X5 hx (q := 108) rfl (hb hby at_106) rfl ?_
    refine k_iconst X5 hx (v := (1 : Int32)) rfl (q := 109) rfl (hb hby at_108) ?_
    refine k_icmp_ne X5 hx (q1 := 140) (q := 112) (by decide) (by decide) rfl (hb hby at_109) (fun hc60 => ?_) (fun hc60 => ?_)
    · refine k_iload X5 hx (q := 142) rfl (hb hby at_140) rfl ?_
      refine k_iconst X5 hx (v := (2 : Int32)) rfl (q := 143) rfl (hb hby at_142) ?_
      refine k_icmp_ne X5 hx (q1 := 184) (q := 146) (by decide) (by decide) rfl (hb hby at_143) (fun hc119 => ?_) (fun hc119 => ?_)
      · have hk0 : k = 3 := by
          have e0 := mt (own_eqi hk (m := 0) (n := 0) ⟨by decide, by decide⟩).mpr hc6
          have e1 := mt (own_eqi hk (m := 1) (n := 1) ⟨by decide, by decide⟩).mpr hc60
          have e2 := mt (own_eqi hk (m := 2) (n := 2) ⟨by decide, by decide⟩).mpr hc119
          omega
        refine k_iconst X5 hx (v := (3 : Int32)) rfl (q := 185) rfl (hb hby at_184) ?_
        refine k_newP X5 hx hZ (hw _ (List.mem_of_getElem? (i := 1) rfl)) e5 (q := 187) rfl (hb hby at_185) (by decide) (cap := 3) (by decide) (by decide) (by decide) (by decide) ?_
        intro T183 h183 sa k183 X183 e183 g183 E183 A183
        have K183 := Keep.of_ext E183
        have V183 : Ary Z h183 sa .int 3 (fun _ => .int (0 : Int32)) := Ary.new A183 (by decide) rfl
        refine k_dup X183 hx (q := 188) rfl (hb hby at_187) rfl ?_
        refine k_iconst X183 hx (v := (0 : Int32)) rfl (q := 189) rfl (hb hby at_188) ?_
        refine k_iload X183 hx (q := 191) rfl (hb hby at_189) rfl ?_
        have Sz189 : n0 ≤ h1.size := Nat.le_trans Z0 K1.1
        have Sz188 : n0 ≤ h2.size := Nat.le_trans Sz189 K2.1
        have Sz187 : n0 ≤ h3.size := Nat.le_trans Sz188 K3.1
        have Sz186 : n0 ≤ h4.size := Nat.le_trans Sz187 K4.1
        have Sz185 : n0 ≤ h5.size := Nat.le_trans Sz186 K5.1
        have ge_sa : n0 ≤ sa := Nat.le_trans Sz185 (Nat.le_of_eq g183.symm)
        refine k_asI X183 hx hZ e183 0 (q := 192) rfl (hb hby at_191) V183 ⟨by decide, by decide⟩ (by decide) ?_
        intro T184 h184 X184 e184 W184 V184
        have K184 := Keep.of_wr W184
        have N184 := Fr.snoc X184 N5 ge_sa
        refine k_dup X184 hx (q := 193) rfl (hb hby at_192) rfl ?_
        refine k_iconst X184 hx (v := (1 : Int32)) rfl (q := 194) rfl (hb hby at_193) ?_
        refine k_iload X184 hx (q := 196) rfl (hb hby at_194) rfl ?_
        refine k_asI X184 hx hZ e184 1 (q := 197) rfl (hb hby at_196) V184 ⟨by decide, by decide⟩ (by decide) ?_
        intro T190 h190 X190 e190 W190 V190
        have K190 := Keep.of_wr W190
        have N190 := Fr.snoc X190 N184 ge_sa
        refine k_dup X190 hx (q := 198) rfl (hb hby at_197) rfl ?_
        refine k_iconst X190 hx (v := (2 : Int32)) rfl (q := 199) rfl (hb hby at_198) ?_
        refine k_iload X190 hx (q := 201) rfl (hb hby at_199) rfl ?_
        refine k_asI X190 hx hZ e190 2 (q := 202) rfl (hb hby at_201) V190 ⟨by decide, by decide⟩ (by decide) ?_
        intro T191 h191 X191 e191 W191 V191
        have K191 := Keep.of_wr W191
        have N191 := Fr.snoc X191 N190 ge_sa
        have Vs : Ary Z h191 sa .int 3 (fun t => .int ((own_of s0 s1 s2 0 0) t)) := V191.congr fun t ht => by
          have : t = 0 ∨ t = 1 ∨ t = 2 ∨ t = 3 := by omega
          rcases this with rfl | rfl | rfl | rfl <;> first | rfl | (exact absurd ht (by decide))
        refine k_astore X191 hx (L' := #[.val (.int x0), .val (.int x1), .val (.int x2), .val (.int x3), .val (.int x4), .val (.int x5), .val (.ref ca), .val (.int n), .val (.int s0), .val (.int s1), .val (.int s2), .val (.int x5), .val (.int m1), .val (.int m2), .val (.int m3), .val (.ref sa), .unset, .unset, .unset, .unset, .unset, .unset]) (q := 204) rfl (hb hby at_202) rfl rfl ?_
        refine k_iconst X191 hx (v := (4 : Int32)) rfl (q := 205) rfl (hb hby at_204) ?_
        refine k_newP X191 hx hZ (hw _ (List.mem_of_getElem? (i := 1) rfl)) e191 (q := 207) rfl (hb hby at_205) (by decide) (cap := 4) (by decide) (by decide) (by decide) (by decide) ?_
        intro T192 h192 na k192 X192 e192 g192 E192 A192
        have K192 := Keep.of_ext E192
        have V192 : Ary Z h192 na .int 4 (fun _ => .int (0 : Int32)) := Ary.new A192 (by decide) rfl
        refine k_dup X192 hx (q := 208) rfl (hb hby at_207) rfl ?_
        refine k_iconst X192 hx (v := (0 : Int32)) rfl (q := 209) rfl (hb hby at_208) ?_
        refine k_iload X192 hx (q := 211) rfl (hb hby at_209) rfl ?_
        have Sz197 : n0 ≤ h183.size := Nat.le_trans Sz185 K183.1
        have Sz196 : n0 ≤ h184.size := Nat.le_trans Sz197 K184.1
        have Sz195 : n0 ≤ h190.size := Nat.le_trans Sz196 K190.1
        have Sz194 : n0 ≤ h191.size := Nat.le_trans Sz195 K191.1
        have ge_na : n0 ≤ na := Nat.le_trans Sz194 (Nat.le_of_eq g192.symm)
        refine k_asI X192 hx hZ e192 0 (q := 212) rfl (hb hby at_211) V192 ⟨by decide, by decide⟩ (by decide) ?_
        intro T193 h193 X193 e193 W193 V193
        have K193 := Keep.of_wr W193
        have N193 := Fr.snoc X193 N191 ge_na
        refine k_dup X193 hx (q := 213) rfl (hb hby at_212) rfl ?_
        refine k_iconst X193 hx (v := (1 : Int32)) rfl (q := 214) rfl (hb hby at_213) ?_
        refine k_iload X193 hx (q := 216) rfl (hb hby at_214) rfl ?_
        refine k_asI X193 hx hZ e193 1 (q := 217) rfl (hb hby at_216) V193 ⟨by decide, by decide⟩ (by decide) ?_
        intro T198 h198 X198 e198 W198 V198
        have K198 := Keep.of_wr W198
        have N198 := Fr.snoc X198 N193 ge_na
        refine k_dup X198 hx (q := 218) rfl (hb hby at_217) rfl ?_
        refine k_iconst X198 hx (v := (2 : Int32)) rfl (q := 219) rfl (hb hby at_218) ?_
        refine k_iload X198 hx (q := 221) rfl (hb hby at_219) rfl ?_
        refine k_asI X198 hx hZ e198 2 (q := 222) rfl (hb hby at_221) V198 ⟨by decide, by decide⟩ (by decide) ?_
        intro T199 h199 X199 e199 W199 V199
        have K199 := Keep.of_wr W199
        have N199 := Fr.snoc X199 N198 ge_na
        refine k_dup X199 hx (q := 223) rfl (hb hby at_222) rfl ?_
        refine k_iconst X199 hx (v := (3 : Int32)) rfl (q := 224) rfl (hb hby at_223) ?_
        refine k_iload X199 hx (q := 226) rfl (hb hby at_224) rfl ?_
        refine k_asI X199 hx hZ e199 3 (q := 227) rfl (hb hby at_226) V199 ⟨by decide, by decide⟩ (by decide) ?_
        intro T200 h200 X200 e200 W200 V200
        have K200 := Keep.of_wr W200
        have N200 := Fr.snoc X200 N199 ge_na
        have Vn : Ary Z h200 na .int 4 (fun t => .int ((own_of x5 m1 m2 m3 0) t)) := V200.congr fun t ht => by
          have : t = 0 ∨ t = 1 ∨ t = 2 ∨ t = 3 := by omega
          rcases this with rfl | rfl | rfl | rfl <;> first | rfl | (exact absurd ht (by decide))
        refine k_astore X200 hx (L' := #[.val (.int x0), .val (.int x1), .val (.int x2), .val (.int x3), .val (.int x4), .val (.int x5), .val (.ref ca), .val (.int n), .val (.int s0), .val (.int s1), .val (.int s2), .val (.int x5), .val (.int m1), .val (.int m2), .val (.int m3), .val (.ref sa), .val (.ref na), .unset, .unset, .unset, .unset, .unset]) (q := 229) rfl (hb hby at_227) rfl rfl ?_
        refine k_iconst X200 hx (v := (3 : Int32)) rfl (q := 230) rfl (hb hby at_229) ?_
        refine k_newP X200 hx hZ (hw _ (List.mem_of_getElem? (i := 1) rfl)) e200 (q := 232) rfl (hb hby at_230) (by decide) (cap := 3) (by decide) (by decide) (by decide) (by decide) ?_
        intro T201 h201 wsa k201 X201 e201 g201 E201 A201
        have K201 := Keep.of_ext E201
        have V201 : Ary Z h201 wsa .int 3 (fun _ => .int (0 : Int32)) := Ary.new A201 (by decide) rfl
        refine k_dup X201 hx (q := 233) rfl (hb hby at_232) rfl ?_
        refine k_iconst X201 hx (v := (0 : Int32)) rfl (q := 234) rfl (hb hby at_233) ?_
        refine k_iload X201 hx (q := 236) rfl (hb hby at_234) rfl ?_
        have Sz207 : n0 ≤ h192.size := Nat.le_trans Sz194 K192.1
        have Sz206 : n0 ≤ h193.size := Nat.le_trans Sz207 K193.1
        have Sz205 : n0 ≤ h198.size := Nat.le_trans Sz206 K198.1
        have Sz204 : n0 ≤ h199.size := Nat.le_trans Sz205 K199.1
        have Sz203 : n0 ≤ h200.size := Nat.le_trans Sz204 K200.1
        have ge_wsa : n0 ≤ wsa := Nat.le_trans Sz203 (Nat.le_of_eq g201.symm)
        refine k_asI X201 hx hZ e201 0 (q := 237) rfl (hb hby at_236) V201 ⟨by decide, by decide⟩ (by decide) ?_
        intro T202 h202 X202 e202 W202 V202
        have K202 := Keep.of_wr W202
        have N202 := Fr.snoc X202 N200 ge_wsa
        refine k_dup X202 hx (q := 238) rfl (hb hby at_237) rfl ?_
        refine k_iconst X202 hx (v := (1 : Int32)) rfl (q := 239) rfl (hb hby at_238) ?_
        refine k_iload X202 hx (q := 241) rfl (hb hby at_239) rfl ?_
        refine k_asI X202 hx hZ e202 1 (q := 242) rfl (hb hby at_241) V202 ⟨by decide, by decide⟩ (by decide) ?_
        intro T208 h208 X208 e208 W208 V208
        have K208 := Keep.of_wr W208
        have N208 := Fr.snoc X208 N202 ge_wsa
        refine k_dup X208 hx (q := 243) rfl (hb hby at_242) rfl ?_
        refine k_iconst X208 hx (v := (2 : Int32)) rfl (q := 244) rfl (hb hby at_243) ?_
        refine k_iload X208 hx (q := 246) rfl (hb hby at_244) rfl ?_
        refine k_asI X208 hx hZ e208 2 (q := 247) rfl (hb hby at_246) V208 ⟨by decide, by decide⟩ (by decide) ?_
        intro T209 h209 X209 e209 W209 V209
        have K209 := Keep.of_wr W209
        have N209 := Fr.snoc X209 N208 ge_wsa
        have Vws : Ary Z h209 wsa .int 3 (fun t => .int ((own_of s0 s1 s2 0 0) t)) := V209.congr fun t ht => by
          have : t = 0 ∨ t = 1 ∨ t = 2 ∨ t = 3 := by omega
          rcases this with rfl | rfl | rfl | rfl <;> first | rfl | (exact absurd ht (by decide))
        refine k_astore X209 hx (L' := #[.val (.int x0), .val (.int x1), .val (.int x2), .val (.int x3), .val (.int x4), .val (.int x5), .val (.ref ca), .val (.int n), .val (.int s0), .val (.int s1), .val (.int s2), .val (.int x5), .val (.int m1), .val (.int m2), .val (.int m3), .val (.ref sa), .val (.ref na), .val (.ref wsa), .unset, .unset, .unset, .unset]) (q := 249) rfl (hb hby at_247) rfl rfl ?_
        refine k_iconst X209 hx (v := (4 : Int32)) rfl (q := 250) rfl (hb hby at_249) ?_
        refine k_newP X209 hx hZ (hw _ (List.mem_of_getElem? (i := 1) rfl)) e209 (q := 252) rfl (hb hby at_250) (by decide) (cap := 4) (by decide) (by decide) (by decide) (by decide) ?_
        intro T210 h210 wna k210 X210 e210 g210 E210 A210
        have K210 := Keep.of_ext E210
        have V210 : Ary Z h210 wna .int 4 (fun _ => .int (0 : Int32)) := Ary.new A210 (by decide) rfl
        refine k_dup X210 hx (q := 253) rfl (hb hby at_252) rfl ?_
        refine k_iconst X210 hx (v := (0 : Int32)) rfl (q := 254) rfl (hb hby at_253) ?_
        refine k_iload X210 hx (q := 256) rfl (hb hby at_254) rfl ?_
        have Sz215 : n0 ≤ h201.size := Nat.le_trans Sz203 K201.1
        have Sz214 : n0 ≤ h202.size := Nat.le_trans Sz215 K202.1
        have Sz213 : n0 ≤ h208.size := Nat.le_trans Sz214 K208.1
        have Sz212 : n0 ≤ h209.size := Nat.le_trans Sz213 K209.1
        have ge_wna : n0 ≤ wna := Nat.le_trans Sz212 (Nat.le_of_eq g210.symm)
        refine k_asI X210 hx hZ e210 0 (q := 257) rfl (hb hby at_256) V210 ⟨by decide, by decide⟩ (by decide) ?_
        intro T211 h211 X211 e211 W211 V211
        have K211 := Keep.of_wr W211
        have N211 := Fr.snoc X211 N209 ge_wna
        refine k_dup X211 hx (q := 258) rfl (hb hby at_257) rfl ?_
        refine k_iconst X211 hx (v := (1 : Int32)) rfl (q := 259) rfl (hb hby at_258) ?_
        refine k_iload X211 hx (q := 261) rfl (hb hby at_259) rfl ?_
        refine k_asI X211 hx hZ e211 1 (q := 262) rfl (hb hby at_261) V211 ⟨by decide, by decide⟩ (by decide) ?_
        intro T216 h216 X216 e216 W216 V216
        have K216 := Keep.of_wr W216
        have N216 := Fr.snoc X216 N211 ge_wna
        refine k_dup X216 hx (q := 263) rfl (hb hby at_262) rfl ?_
        refine k_iconst X216 hx (v := (2 : Int32)) rfl (q := 264) rfl (hb hby at_263) ?_
        refine k_iload X216 hx (q := 266) rfl (hb hby at_264) rfl ?_
        refine k_asI X216 hx hZ e216 2 (q := 267) rfl (hb hby at_266) V216 ⟨by decide, by decide⟩ (by decide) ?_
        intro T217 h217 X217 e217 W217 V217
        have K217 := Keep.of_wr W217
        have N217 := Fr.snoc X217 N216 ge_wna
        refine k_dup X217 hx (q := 268) rfl (hb hby at_267) rfl ?_
        refine k_iconst X217 hx (v := (3 : Int32)) rfl (q := 269) rfl (hb hby at_268) ?_
        refine k_iload X217 hx (q := 271) rfl (hb hby at_269) rfl ?_
        refine k_asI X217 hx hZ e217 3 (q := 272) rfl (hb hby at_271) V217 ⟨by decide, by decide⟩ (by decide) ?_
        intro T218 h218 X218 e218 W218 V218
        have K218 := Keep.of_wr W218
        have N218 := Fr.snoc X218 N217 ge_wna
        have Vwn : Ary Z h218 wna .int 4 (fun t => .int ((own_of x5 m1 m2 m3 0) t)) := V218.congr fun t ht => by
          have : t = 0 ∨ t = 1 ∨ t = 2 ∨ t = 3 := by omega
          rcases this with rfl | rfl | rfl | rfl <;> first | rfl | (exact absurd ht (by decide))
        refine k_astore X218 hx (L' := #[.val (.int x0), .val (.int x1), .val (.int x2), .val (.int x3), .val (.int x4), .val (.int x5), .val (.ref ca), .val (.int n), .val (.int s0), .val (.int s1), .val (.int s2), .val (.int x5), .val (.int m1), .val (.int m2), .val (.int m3), .val (.ref sa), .val (.ref na), .val (.ref wsa), .val (.ref wna), .unset, .unset, .unset]) (q := 274) rfl (hb hby at_272) rfl rfl ?_
        refine k_aload X218 hx (q := 276) rfl (hb hby at_274) rfl rfl ?_
        refine k_aload X218 hx (q := 278) rfl (hb hby at_276) rfl rfl ?_
        refine k_aload X218 hx (q := 280) rfl (hb hby at_278) rfl rfl ?_
        have Sz223 : n0 ≤ h210.size := Nat.le_trans Sz212 K210.1
        have Sz222 : n0 ≤ h211.size := Nat.le_trans Sz223 K211.1
        have Sz221 : n0 ≤ h216.size := Nat.le_trans Sz222 K216.1
        have Sz220 : n0 ≤ h217.size := Nat.le_trans Sz221 K217.1
        have Sz219 : n0 ≤ h218.size := Nat.le_trans Sz220 K218.1
        have ne_sa_na : sa ≠ na := Nat.ne_of_lt (Nat.lt_of_lt_of_le (Vs).lt (Nat.le_of_eq g192.symm))
        have G224 := (((((Vs.keep K192 nin0).keep K193 (ninS ne_sa_na nin0)).keep K198 (ninS ne_sa_na nin0)).keep K199 (ninS ne_sa_na nin0)).keep K200 (ninS ne_sa_na nin0))
        have ne_sa_wsa : sa ≠ wsa := Nat.ne_of_lt (Nat.lt_of_lt_of_le (G224).lt (Nat.le_of_eq g201.symm))
        have G225 := ((((G224.keep K201 nin0).keep K202 (ninS ne_sa_wsa nin0)).keep K208 (ninS ne_sa_wsa nin0)).keep K209 (ninS ne_sa_wsa nin0))
        have ne_sa_wna : sa ≠ wna := Nat.ne_of_lt (Nat.lt_of_lt_of_le (G225).lt (Nat.le_of_eq g210.symm))
        have G226 := ((((((((((((((Vs.keep K192 nin0).keep K193 (ninS ne_sa_na nin0)).keep K198 (ninS ne_sa_na nin0)).keep K199 (ninS ne_sa_na nin0)).keep K200 (ninS ne_sa_na nin0)).keep K201 nin0).keep K202 (ninS ne_sa_wsa nin0)).keep K208 (ninS ne_sa_wsa nin0)).keep K209 (ninS ne_sa_wsa nin0)).keep K210 nin0).keep K211 (ninS ne_sa_wna nin0)).keep K216 (ninS ne_sa_wna nin0)).keep K217 (ninS ne_sa_wna nin0)).keep K218 (ninS ne_sa_wna nin0))
        have ne_ca_sa : ca ≠ sa := Nat.ne_of_lt (Nat.lt_of_lt_of_le (Vc).lt (Nat.le_of_eq g183.symm))
        have G227 := ((((Vc.keep K183 nin0).keep K184 (ninS ne_ca_sa nin0)).keep K190 (ninS ne_ca_sa nin0)).keep K191 (ninS ne_ca_sa nin0))
        have ne_ca_na : ca ≠ na := Nat.ne_of_lt (Nat.lt_of_lt_of_le (G227).lt (Nat.le_of_eq g192.symm))
        have G228 := (((((G227.keep K192 nin0).keep K193 (ninS ne_ca_na nin0)).keep K198 (ninS ne_ca_na nin0)).keep K199 (ninS ne_ca_na nin0)).keep K200 (ninS ne_ca_na nin0))
        have ne_ca_wsa : ca ≠ wsa := Nat.ne_of_lt (Nat.lt_of_lt_of_le (G228).lt (Nat.le_of_eq g201.symm))
        have G229 := ((((G228.keep K201 nin0).keep K202 (ninS ne_ca_wsa nin0)).keep K208 (ninS ne_ca_wsa nin0)).keep K209 (ninS ne_ca_wsa nin0))
        have ne_ca_wna : ca ≠ wna := Nat.ne_of_lt (Nat.lt_of_lt_of_le (G229).lt (Nat.le_of_eq g210.symm))
        have G230 := ((((((((((((((((((Vc.keep K183 nin0).keep K184 (ninS ne_ca_sa nin0)).keep K190 (ninS ne_ca_sa nin0)).keep K191 (ninS ne_ca_sa nin0)).keep K192 nin0).keep K193 (ninS ne_ca_na nin0)).keep K198 (ninS ne_ca_na nin0)).keep K199 (ninS ne_ca_na nin0)).keep K200 (ninS ne_ca_na nin0)).keep K201 nin0).keep K202 (ninS ne_ca_wsa nin0)).keep K208 (ninS ne_ca_wsa nin0)).keep K209 (ninS ne_ca_wsa nin0)).keep K210 nin0).keep K211 (ninS ne_ca_wna nin0)).keep K216 (ninS ne_ca_wna nin0)).keep K217 (ninS ne_ca_wna nin0)).keep K218 (ninS ne_ca_wna nin0))
        refine k_callS X218 hx hZ (y := (⟨"com/example/footwise/footwise/search/Route", "of", "([I[I[D)Lcom/example/footwise/footwise/search/Route;"⟩ : MethodName)) hown (hw _ (List.mem_of_getElem? (i := 2) rfl)) (hw _ (List.mem_of_getElem? (i := 3) rfl)) (hw _ (List.mem_of_getElem? (i := 4) rfl)) (hw _ (List.mem_of_getElem? (i := 5) rfl)) (by decide) 0 e218 (rm1 l Z a0 hw na sa ca h218 n0 Sz219 3 (by decide) (own_of s0 s1 s2 0 0) si (fun t ht => hsc t (by omega)) (own_of x0 x1 x2 x3 0) G226 G230) (by decide) (by decide) (by decide) (by decide) (by rw [hml]; rfl) (as := [(.ref na), (.ref sa), (.ref ca)]) (rest := []) pd_2 rfl (by first | exact Nat.le_refl _ | simp [Value.category]) (q := 283) rfl (hb hby at_280) ?_
        rintro _ T231 L231 X231 ⟨ra, rfl, N231q, K231, le231, E231, Fn231, Fs231, Fc231⟩
        have N231 := Fr.app N218 N231q
        show End _ _ _ _ _ _ _ (T231.setTop (mkF m 283 #[.val (.int x0), .val (.int x1), .val (.int x2), .val (.int x3), .val (.int x4), .val (.int x5), .val (.ref ca), .val (.int n), .val (.int s0), .val (.int s1), .val (.int s2), .val (.int x5), .val (.int m1), .val (.int m2), .val (.int m3), .val (.ref sa), .val (.ref na), .val (.ref wsa), .val (.ref wna), .unset, .unset, .unset] [(.ref ra)]))
        refine k_astore X231 hx (L' := #[.val (.int x0), .val (.int x1), .val (.int x2), .val (.int x3), .val (.int x4), .val (.int x5), .val (.ref ca), .val (.int n), .val (.int s0), .val (.int s1), .val (.int s2), .val (.int x5), .val (.int m1), .val (.int m2), .val (.int m3), .val (.ref sa), .val (.ref na), .val (.ref wsa), .val (.ref wna), .val (.ref ra), .unset, .unset]) (q := 285) rfl (hb hby at_283) rfl rfl ?_
        refine k_dconst0 X231 hx (q := 286) rfl (hb hby at_285) (v := (0 : UInt64)) (by decide) ?_
        refine k_dstore X231 hx (L' := #[.val (.int x0), .val (.int x1), .val (.int x2), .val (.int x3), .val (.int x4), .val (.int x5), .val (.ref ca), .val (.int n), .val (.int s0), .val (.int s1), .val (.int s2), .val (.int x5), .val (.int m1), .val (.int m2), .val (.int m3), .val (.ref sa), .val (.ref na), .val (.ref wsa), .val (.ref wna), .val (.ref ra), .val (.double (0 : UInt64)), .second]) (q := 288) rfl (hb hby at_286) rfl ?_
        rw [show (0 : UInt64) = FP.l2d (own_sum (own_of x0 x1 x2 x3 0) si 0) from Jvm.RoadKit.l2d_zero.symm]
        show End _ _ _ _ _ _ _ (T231.setTop (mkF m 288 #[.val (.int x0), .val (.int x1), .val (.int x2), .val (.int x3), .val (.int x4), .val (.int x5), .val (.ref ca), .val (.int n), .val (.int s0), .val (.int s1), .val (.int s2), .val (.int x5), .val (.int m1), .val (.int m2), .val (.int m3), .val (.ref sa), .val (.ref na), .val (.ref wsa), .val (.ref wna), .val (.ref ra), .val (.double (FP.l2d (own_sum (own_of x0 x1 x2 x3 0) si 0))), .second] []))
        refine k_iload X231 hx (q := 290) rfl (hb hby at_288) rfl ?_
        refine k_iconst X231 hx (v := (1 : Int32)) rfl (q := 291) rfl (hb hby at_290) ?_
        refine k_icmp_lt X231 hx (q1 := 308) (q := 294) (by decide) (by decide) rfl (hb hby at_291) (fun hc => absurd hc (fun q => by have := (own_lt (k := k) (n := 1) hk ⟨by decide, by decide⟩).mp q; omega)) (fun _ => ?_)
        refine k_dload X231 hx (q := 296) rfl (hb hby at_294) rfl ?_
        refine k_iloadN X231 hx (q := 297) rfl (hb hby at_296) rfl ?_
        refine k_iloadN X231 hx (q := 298) rfl (hb hby at_297) rfl ?_
        refine k_iloadN X231 hx (q := 299) rfl (hb hby at_298) rfl ?_
        refine k_iloadN X231 hx (q := 300) rfl (hb hby at_299) rfl ?_
        refine k_iload X231 hx (q := 302) rfl (hb hby at_300) rfl ?_
        refine k_callS X231 hx hZ (y := (⟨"com/example/footwise/footwise/search/RouteOfPinLaw", "pick", "(IIIII)D"⟩ : MethodName)) hown (hw _ (List.mem_of_getElem? (i := 44) rfl)) (hw _ (List.mem_of_getElem? (i := 45) rfl)) (hw _ (List.mem_of_getElem? (i := 37) rfl)) (hw _ (List.mem_of_getElem? (i := 46) rfl)) (by decide) 2 rfl (rm9 l Z a0 hw x0 x1 x2 x3 s0 T231.heap n0) (by decide) (by decide) (by decide) (by decide) (by rw [hml]; rfl) (as := [(.int x0), (.int x1), (.int x2), (.int x3), (.int s0)]) (rest := [(.double (FP.l2d (own_sum (own_of x0 x1 x2 x3 0) si 0)))]) pd_6 rfl (by first | exact Nat.le_refl _ | simp [Value.category]) (q := 305) rfl (hb hby at_302) ?_
        rintro _ T233 L233 X233 ⟨rfl, N233q, e233⟩
        have N233 := Fr.app N231 N233q
        show End _ _ _ _ _ _ _ (T233.setTop (mkF m 305 #[.val (.int x0), .val (.int x1), .val (.int x2), .val (.int x3), .val (.int x4), .val (.int x5), .val (.ref ca), .val (.int n), .val (.int s0), .val (.int s1), .val (.int s2), .val (.int x5), .val (.int m1), .val (.int m2), .val (.int m3), .val (.ref sa), .val (.ref na), .val (.ref wsa), .val (.ref wna), .val (.ref ra), .val (.double (FP.l2d (own_sum (own_of x0 x1 x2 x3 0) si 0))), .second] [(.double (f9 x0 x1 x2 x3 s0)), (.double (FP.l2d (own_sum (own_of x0 x1 x2 x3 0) si 0)))]))
        have hadd0 : FP.dadd (FP.l2d (own_sum (own_of x0 x1 x2 x3 0) si 0)) (f9 x0 x1 x2 x3 s0) = FP.l2d (own_sum (own_of x0 x1 x2 x3 0) si 1) := by
          rw [own_pick x0 x1 x2 x3 hi0 hi04]
          have := own_add (own_of x0 x1 x2 x3 0) si (i := 0) (by decide)
          rw [hsi] at this ⊢; exact this
        refine k_dadd X233 hx (q := 306) rfl (hb hby at_305) (v := (FP.l2d (own_sum (own_of x0 x1 x2 x3 0) si 1))) (Jvm.RoadKit.nn_w hadd0) hadd0 ?_
        refine k_dstore X233 hx (L' := #[.val (.int x0), .val (.int x1), .val (.int x2), .val (.int x3), .val (.int x4), .val (.int x5), .val (.ref ca), .val (.int n), .val (.int s0), .val (.int s1), .val (.int s2), .val (.int x5), .val (.int m1), .val (.int m2), .val (.int m3), .val (.ref sa), .val (.ref na), .val (.ref wsa), .val (.ref wna), .val (.ref ra), .val (.double (FP.l2d (own_sum (own_of x0 x1 x2 x3 0) si 1))), .second]) (q := 308) rfl (hb hby at_306) rfl ?_
        refine k_iload X233 hx (q := 310) rfl (hb hby at_308) rfl ?_
        refine k_iconst X233 hx (v := (2 : Int32)) rfl (q := 311) rfl (hb hby at_310) ?_
        refine k_icmp_lt X233 hx (q1 := 328) (q := 314) (by decide) (by decide) rfl (hb hby at_311) (fun hc => absurd hc (fun q => by have := (own_lt (k := k) (n := 2) hk ⟨by decide, by decide⟩).mp q; omega)) (fun _ => ?_)
        refine k_dload X233 hx (q := 316) rfl (hb hby at_314) rfl ?_
        refine k_iloadN X233 hx (q := 317) rfl (hb hby at_316) rfl ?_
        refine k_iloadN X233 hx (q := 318) rfl (hb hby at_317) rfl ?_
        refine k_iloadN X233 hx (q := 319) rfl (hb hby at_318) rfl ?_
        refine k_iloadN X233 hx (q := 320) rfl (hb hby at_319) rfl ?_
        refine k_iload X233 hx (q := 322) rfl (hb hby at_320) rfl ?_
        refine k_callS X233 hx hZ (y := (⟨"com/example/footwise/footwise/search/RouteOfPinLaw", "pick", "(IIIII)D"⟩ : MethodName)) hown (hw _ (List.mem_of_getElem? (i := 44) rfl)) (hw _ (List.mem_of_getElem? (i := 45) rfl)) (hw _ (List.mem_of_getElem? (i := 37) rfl)) (hw _ (List.mem_of_getElem? (i := 46) rfl)) (by decide) 2 e233 (rm9 l Z a0 hw x0 x1 x2 x3 s1 T231.heap n0) (by decide) (by decide) (by decide) (by decide) (by rw [hml]; rfl) (as := [(.int x0), (.int x1), (.int x2), (.int x3), (.int s1)]) (rest := [(.double (FP.l2d (own_sum (own_of x0 x1 x2 x3 0) si 1)))]) pd_6 rfl (by first | exact Nat.le_refl _ | simp [Value.category]) (q := 325) rfl (hb hby at_322) ?_
        rintro _ T235 L235 X235 ⟨rfl, N235q, e235⟩
        have N235 := Fr.app N233 N235q
        show End _ _ _ _ _ _ _ (T235.setTop (mkF m 325 #[.val (.int x0), .val (.int x1), .val (.int x2), .val (.int x3), .val (.int x4), .val (.int x5), .val (.ref ca), .val (.int n), .val (.int s0), .val (.int s1), .val (.int s2), .val (.int x5), .val (.int m1), .val (.int m2), .val (.int m3), .val (.ref sa), .val (.ref na), .val (.ref wsa), .val (.ref wna), .val (.ref ra), .val (.double (FP.l2d (own_sum (own_of x0 x1 x2 x3 0) si 1))), .second] [(.double (f9 x0 x1 x2 x3 s1)), (.double (FP.l2d (own_sum (own_of x0 x1 x2 x3 0) si 1)))]))
        have hadd1 : FP.dadd (FP.l2d (own_sum (own_of x0 x1 x2 x3 0) si 1)) (f9 x0 x1 x2 x3 s1) = FP.l2d (own_sum (own_of x0 x1 x2 x3 0) si 2) := by
          rw [own_pick x0 x1 x2 x3 hi1 hi14]
          have := own_add (own_of x0 x1 x2 x3 0) si (i := 1) (by decide)
          rw [hsi] at this ⊢; exact this
        refine k_dadd X235 hx (q := 326) rfl (hb hby at_325) (v := (FP.l2d (own_sum (own_of x0 x1 x2 x3 0) si 2))) (Jvm.RoadKit.nn_w hadd1) hadd1 ?_
        refine k_dstore X235 hx (L' := #[.val (.int x0), .val (.int x1), .val (.int x2), .val (.int x3), .val (.int x4), .val (.int x5), .val (.ref ca), .val (.int n), .val (.int s0), .val (.int s1), .val (.int s2), .val (.int x5), .val (.int m1), .val (.int m2), .val (.int m3), .val (.ref sa), .val (.ref na), .val (.ref wsa), .val (.ref wna), .val (.ref ra), .val (.double (FP.l2d (own_sum (own_of x0 x1 x2 x3 0) si 2))), .second]) (q := 328) rfl (hb hby at_326) rfl ?_
        refine k_iload X235 hx (q := 330) rfl (hb hby at_328) rfl ?_
        refine k_iconst X235 hx (v := (3 : Int32)) rfl (q := 331) rfl (hb hby at_330) ?_
        refine k_icmp_lt X235 hx (q1 := 348) (q := 334) (by decide) (by decide) rfl (hb hby at_331) (fun hc => absurd hc (fun q => by have := (own_lt (k := k) (n := 3) hk ⟨by decide, by decide⟩).mp q; omega)) (fun _ => ?_)
        refine k_dload X235 hx (q := 336) rfl (hb hby at_334) rfl ?_
        refine k_iloadN X235 hx (q := 337) rfl (hb hby at_336) rfl ?_
        refine k_iloadN X235 hx (q := 338) rfl (hb hby at_337) rfl ?_
        refine k_iloadN X235 hx (q := 339) rfl (hb hby at_338) rfl ?_
        refine k_iloadN X235 hx (q := 340) rfl (hb hby at_339) rfl ?_
        refine k_iload X235 hx (q := 342) rfl (hb hby at_340) rfl ?_
        refine k_callS X235 hx hZ (y := (⟨"com/example/footwise/footwise/search/RouteOfPinLaw", "pick", "(IIIII)D"⟩ : MethodName)) hown (hw _ (List.mem_of_getElem? (i := 44) rfl)) (hw _ (List.mem_of_getElem? (i := 45) rfl)) (hw _ (List.mem_of_getElem? (i := 37) rfl)) (hw _ (List.mem_of_getElem? (i := 46) rfl)) (by decide) 2 e235 (rm9 l Z a0 hw x0 x1 x2 x3 s2 T231.heap n0) (by decide) (by decide) (by decide) (by decide) (by rw [hml]; rfl) (as := [(.int x0), (.int x1), (.int x2), (.int x3), (.int s2)]) (rest := [(.double (FP.l2d (own_sum (own_of x0 x1 x2 x3 0) si 2)))]) pd_6 rfl (by first | exact Nat.le_refl _ | simp [Value.category]) (q := 345) rfl (hb hby at_342) ?_
        rintro _ T237 L237 X237 ⟨rfl, N237q, e237⟩
        have N237 := Fr.app N235 N237q
        show End _ _ _ _ _ _ _ (T237.setTop (mkF m 345 #[.val (.int x0), .val (.int x1), .val (.int x2), .val (.int x3), .val (.int x4), .val (.int x5), .val (.ref ca), .val (.int n), .val (.int s0), .val (.int s1), .val (.int s2), .val (.int x5), .val (.int m1), .val (.int m2), .val (.int m3), .val (.ref sa), .val (.ref na), .val (.ref wsa), .val (.ref wna), .val (.ref ra), .val (.double (FP.l2d (own_sum (own_of x0 x1 x2 x3 0) si 2))), .second] [(.double (f9 x0 x1 x2 x3 s2)), (.double (FP.l2d (own_sum (own_of x0 x1 x2 x3 0) si 2)))]))
        have hadd2 : FP.dadd (FP.l2d (own_sum (own_of x0 x1 x2 x3 0) si 2)) (f9 x0 x1 x2 x3 s2) = FP.l2d (own_sum (own_of x0 x1 x2 x3 0) si 3) := by
          rw [own_pick x0 x1 x2 x3 hi2 hi24]
          have := own_add (own_of x0 x1 x2 x3 0) si (i := 2) (by decide)
          rw [hsi] at this ⊢; exact this
        refine k_dadd X237 hx (q := 346) rfl (hb hby at_345) (v := (FP.l2d (own_sum (own_of x0 x1 x2 x3 0) si 3))) (Jvm.RoadKit.nn_w hadd2) hadd2 ?_
        refine k_dstore X237 hx (L' := #[.val (.int x0), .val (.int x1), .val (.int x2), .val (.int x3), .val (.int x4), .val (.int x5), .val (.ref ca), .val (.int n), .val (.int s0), .val (.int s1), .val (.int s2), .val (.int x5), .val (.int m1), .val (.int m2), .val (.int m3), .val (.ref sa), .val (.ref na), .val (.ref wsa), .val (.ref wna), .val (.ref ra), .val (.double (FP.l2d (own_sum (own_of x0 x1 x2 x3 0) si 3))), .second]) (q := 348) rfl (hb hby at_346) rfl ?_
        refine k_aload X237 hx (q := 350) rfl (hb hby at_348) rfl rfl ?_
        refine k_callV X237 hx hZ (y := (⟨"com/example/footwise/footwise/search/Route", "cost", "()D"⟩ : MethodName)) (z := (⟨"com/example/footwise/footwise/search/Route", "cost", "()D"⟩ : MethodName)) hown (hw _ (List.mem_of_getElem? (i := 25) rfl)) (hw _ (List.mem_of_getElem? (i := 26) rfl)) (notFace_of_selects (args := #[]) (mvT hZ (hw _ (List.mem_of_getElem? (i := 28) rfl)))) (hw _ (List.mem_of_getElem? (i := 28) rfl)) (hw _ (List.mem_of_getElem? (i := 27) rfl)) (hw _ (List.mem_of_getElem? (i := 29) rfl)) (hw _ (List.mem_of_getElem? (i := 4) rfl)) (by decide) E231 0 e237 (rm5 l Z a0 hw ra T231.heap n0 _ Fc231) (by decide) (by decide) (by decide) (by decide) (by rw [hml]; rfl) (a := ra) (as := []) (rest := []) pd_3 rfl (by first | exact Nat.le_refl _ | simp [Value.category]) (q := 353) rfl (hb hby at_350) ?_
        rintro _ T238 L238 X238 ⟨rfl, N238q, e238⟩
        have N238 := Fr.app N237 N238q
        show End _ _ _ _ _ _ _ (T238.setTop (mkF m 353 #[.val (.int x0), .val (.int x1), .val (.int x2), .val (.int x3), .val (.int x4), .val (.int x5), .val (.ref ca), .val (.int n), .val (.int s0), .val (.int s1), .val (.int s2), .val (.int x5), .val (.int m1), .val (.int m2), .val (.int m3), .val (.ref sa), .val (.ref na), .val (.ref wsa), .val (.ref wna), .val (.ref ra), .val (.double (FP.l2d (own_sum (own_of x0 x1 x2 x3 0) si 3))), .second] [(.double (FP.l2d (own_sum (own_of x0 x1 x2 x3 0) si 3)))]))
        refine k_dload X238 hx (q := 355) rfl (hb hby at_353) rfl ?_
        refine k_dcmp X238 hx (q := 356) rfl (hb hby at_355) (v := 0) (Jvm.RoadKit.dcmpV_self (Fl.l2d_fin _).noNaN _) ?_
        refine k_if_ne X238 hx (q1 := 395) (q := 359) (by decide) (by decide) rfl (hb hby at_356) (fun hc => absurd rfl hc) (fun _ => ?_)
        have hkk : Ix n 3 := by
          have : k = 3 := by omega
          rwa [this] at hk
        have hnn : (3 : Nat).toInt32 = n := Int32.toInt_inj.mp (by rw [hkk.int]; decide)
        refine k_aload X238 hx (q := 361) rfl (hb hby at_359) rfl rfl ?_
        refine k_callV X238 hx hZ (y := (⟨"com/example/footwise/footwise/search/Route", "sections", "()[I"⟩ : MethodName)) (z := (⟨"com/example/footwise/footwise/search/Route", "sections", "()[I"⟩ : MethodName)) hown (hw _ (List.mem_of_getElem? (i := 30) rfl)) (hw _ (List.mem_of_getElem? (i := 31) rfl)) (notFace_of_selects (args := #[]) (mvT hZ (hw _ (List.mem_of_getElem? (i := 33) rfl)))) (hw _ (List.mem_of_getElem? (i := 33) rfl)) (hw _ (List.mem_of_getElem? (i := 32) rfl)) (hw _ (List.mem_of_getElem? (i := 34) rfl)) (hw _ (List.mem_of_getElem? (i := 4) rfl)) (by decide) E231 0 e238 (rm6 l Z a0 hw ra T231.heap n0 sa Fs231) (by decide) (by decide) (by decide) (by decide) (by rw [hml]; rfl) (a := ra) (as := []) (rest := []) pd_4 rfl (by first | exact Nat.le_refl _ | simp [Value.category]) (q := 364) rfl (hb hby at_361) ?_
        rintro _ T240 L240 X240 ⟨rfl, N240q, e240⟩
        have N240 := Fr.app N238 N240q
        show End _ _ _ _ _ _ _ (T240.setTop (mkF m 364 #[.val (.int x0), .val (.int x1), .val (.int x2), .val (.int x3), .val (.int x4), .val (.int x5), .val (.ref ca), .val (.int n), .val (.int s0), .val (.int s1), .val (.int s2), .val (.int x5), .val (.int m1), .val (.int m2), .val (.int m3), .val (.ref sa), .val (.ref na), .val (.ref wsa), .val (.ref wna), .val (.ref ra), .val (.double (FP.l2d (own_sum (own_of x0 x1 x2 x3 0) si 3))), .second] [(.ref sa)]))
        refine k_aload X240 hx (q := 366) rfl (hb hby at_364) rfl rfl ?_
        refine k_iload X240 hx (q := 368) rfl (hb hby at_366) rfl ?_
        have G241 := (G226.keep K231 nin0)
        have ne_wsa_wna : wsa ≠ wna := Nat.ne_of_lt (Nat.lt_of_lt_of_le (Vws).lt (Nat.le_of_eq g210.symm))
        have G242 := ((((((Vws.keep K210 nin0).keep K211 (ninS ne_wsa_wna nin0)).keep K216 (ninS ne_wsa_wna nin0)).keep K217 (ninS ne_wsa_wna nin0)).keep K218 (ninS ne_wsa_wna nin0)).keep K231 nin0)
        refine k_callS X240 hx hZ (y := (⟨"com/example/footwise/footwise/search/RouteOfPinLaw", "same", "([I[II)Z"⟩ : MethodName)) hown (hw _ (List.mem_of_getElem? (i := 35) rfl)) (hw _ (List.mem_of_getElem? (i := 36) rfl)) (hw _ (List.mem_of_getElem? (i := 37) rfl)) (hw _ (List.mem_of_getElem? (i := 38) rfl)) (by decide) 0 e240 (rm7 l Z a0 hw sa wsa n T231.heap n0 3 3 hkk hnn (by decide) (own_of s0 s1 s2 0 0) (own_of s0 s1 s2 0 0) (fun _ _ => rfl) G241 G242) (by decide) (by decide) (by decide) (by decide) (by rw [hml]; rfl) (as := [(.ref sa), (.ref wsa), (.int n)]) (rest := []) pd_5 rfl (by first | exact Nat.le_refl _ | simp [Value.category]) (q := 371) rfl (hb hby at_368) ?_
        rintro _ T243 L243 X243 ⟨rfl, N243q, e243⟩
        have N243 := Fr.app N240 N243q
        show End _ _ _ _ _ _ _ (T243.setTop (mkF m 371 #[.val (.int x0), .val (.int x1), .val (.int x2), .val (.int x3), .val (.int x4), .val (.int x5), .val (.ref ca), .val (.int n), .val (.int s0), .val (.int s1), .val (.int s2), .val (.int x5), .val (.int m1), .val (.int m2), .val (.int m3), .val (.ref sa), .val (.ref na), .val (.ref wsa), .val (.ref wna), .val (.ref ra), .val (.double (FP.l2d (own_sum (own_of x0 x1 x2 x3 0) si 3))), .second] [(.int (1 : Int32))]))
        refine k_if_eq X243 hx (q1 := 395) (q := 374) (by decide) (by decide) rfl (hb hby at_371) (fun hc => absurd hc (by decide)) (fun _ => ?_)
        refine k_aload X243 hx (q := 376) rfl (hb hby at_374) rfl rfl ?_
        refine k_callV X243 hx hZ (y := (⟨"com/example/footwise/footwise/search/Route", "nodes", "()[I"⟩ : MethodName)) (z := (⟨"com/example/footwise/footwise/search/Route", "nodes", "()[I"⟩ : MethodName)) hown (hw _ (List.mem_of_getElem? (i := 39) rfl)) (hw _ (List.mem_of_getElem? (i := 40) rfl)) (notFace_of_selects (args := #[]) (mvT hZ (hw _ (List.mem_of_getElem? (i := 42) rfl)))) (hw _ (List.mem_of_getElem? (i := 42) rfl)) (hw _ (List.mem_of_getElem? (i := 41) rfl)) (hw _ (List.mem_of_getElem? (i := 43) rfl)) (hw _ (List.mem_of_getElem? (i := 4) rfl)) (by decide) E231 0 e243 (rm8 l Z a0 hw ra T231.heap n0 na Fn231) (by decide) (by decide) (by decide) (by decide) (by rw [hml]; rfl) (a := ra) (as := []) (rest := []) pd_4 rfl (by first | exact Nat.le_refl _ | simp [Value.category]) (q := 379) rfl (hb hby at_376) ?_
        rintro _ T245 L245 X245 ⟨rfl, N245q, e245⟩
        have N245 := Fr.app N243 N245q
        show End _ _ _ _ _ _ _ (T245.setTop (mkF m 379 #[.val (.int x0), .val (.int x1), .val (.int x2), .val (.int x3), .val (.int x4), .val (.int x5), .val (.ref ca), .val (.int n), .val (.int s0), .val (.int s1), .val (.int s2), .val (.int x5), .val (.int m1), .val (.int m2), .val (.int m3), .val (.ref sa), .val (.ref na), .val (.ref wsa), .val (.ref wna), .val (.ref ra), .val (.double (FP.l2d (own_sum (own_of x0 x1 x2 x3 0) si 3))), .second] [(.ref na)]))
        refine k_aload X245 hx (q := 381) rfl (hb hby at_379) rfl rfl ?_
        refine k_iload X245 hx (q := 383) rfl (hb hby at_381) rfl ?_
        refine k_iconst X245 hx (v := (1 : Int32)) rfl (q := 384) rfl (hb hby at_383) ?_
        refine k_iadd X245 hx (q := 385) rfl (hb hby at_384) ?_
        have ne_na_wsa : na ≠ wsa := Nat.ne_of_lt (Nat.lt_of_lt_of_le (Vn).lt (Nat.le_of_eq g201.symm))
        have G246 := ((((Vn.keep K201 nin0).keep K202 (ninS ne_na_wsa nin0)).keep K208 (ninS ne_na_wsa nin0)).keep K209 (ninS ne_na_wsa nin0))
        have ne_na_wna : na ≠ wna := Nat.ne_of_lt (Nat.lt_of_lt_of_le (G246).lt (Nat.le_of_eq g210.symm))
        have G247 := ((((((((((Vn.keep K201 nin0).keep K202 (ninS ne_na_wsa nin0)).keep K208 (ninS ne_na_wsa nin0)).keep K209 (ninS ne_na_wsa nin0)).keep K210 nin0).keep K211 (ninS ne_na_wna nin0)).keep K216 (ninS ne_na_wna nin0)).keep K217 (ninS ne_na_wna nin0)).keep K218 (ninS ne_na_wna nin0)).keep K231 nin0)
        have G248 := (Vwn.keep K231 nin0)
        have hk1 := own_up hkk (by decide)
        have hnn1 : (4 : Nat).toInt32 = n + (1 : Int32) := Int32.toInt_inj.mp (by rw [hk1.int]; decide)
        refine k_callS X245 hx hZ (y := (⟨"com/example/footwise/footwise/search/RouteOfPinLaw", "same", "([I[II)Z"⟩ : MethodName)) hown (hw _ (List.mem_of_getElem? (i := 35) rfl)) (hw _ (List.mem_of_getElem? (i := 36) rfl)) (hw _ (List.mem_of_getElem? (i := 37) rfl)) (hw _ (List.mem_of_getElem? (i := 38) rfl)) (by decide) 0 e245 (rm7 l Z a0 hw na wna (n + (1 : Int32)) T231.heap n0 4 4 hk1 hnn1 (by decide) (own_of x5 m1 m2 m3 0) (own_of x5 m1 m2 m3 0) (fun _ _ => rfl) G247 G248) (by decide) (by decide) (by decide) (by decide) (by rw [hml]; rfl) (as := [(.ref na), (.ref wna), (.int (n + (1 : Int32)))]) (rest := []) pd_5 rfl (by first | exact Nat.le_refl _ | simp [Value.category]) (q := 388) rfl (hb hby at_385) ?_
        rintro _ T249 L249 X249 ⟨rfl, N249q, e249⟩
        have N249 := Fr.app N245 N249q
        show End _ _ _ _ _ _ _ (T249.setTop (mkF m 388 #[.val (.int x0), .val (.int x1), .val (.int x2), .val (.int x3), .val (.int x4), .val (.int x5), .val (.ref ca), .val (.int n), .val (.int s0), .val (.int s1), .val (.int s2), .val (.int x5), .val (.int m1), .val (.int m2), .val (.int m3), .val (.ref sa), .val (.ref na), .val (.ref wsa), .val (.ref wna), .val (.ref ra), .val (.double (FP.l2d (own_sum (own_of x0 x1 x2 x3 0) si 3))), .second] [(.int (1 : Int32))]))
        refine k_if_eq X249 hx (q1 := 395) (q := 391) (by decide) (by decide) rfl (hb hby at_388) (fun hc => absurd hc (by decide)) (fun _ => ?_)
        refine k_iconst X249 hx (v := (1 : Int32)) rfl (q := 392) rfl (hb hby at_391) ?_
        refine k_goto X249 hx (q := 396) (by decide) (by decide) (hb hby at_392) ?_
        exact k_retN X249 hx (t := .boolean) hlk (by decide) (by decide) hret (by simp) (hb hby at_396) ⟨rfl, N249⟩
      · have hk0 : k = 2 := (own_eqi hk (m := (2 : Int32)) (n := 2) ⟨by decide, by decide⟩).mp hc119
        refine k_iconst X5 hx (v := (2 : Int32)) rfl (q := 147) rfl (hb hby at_146) ?_
        refine k_newP X5 hx hZ (hw _ (List.mem_of_getElem? (i := 1) rfl)) e5 (q := 149) rfl (hb hby at_147) (by decide) (cap := 2) (by decide) (by decide) (by decide) (by decide) ?_
        intro T120 h120 sa k120 X120 e120 g120 E120 A120
        have K120 := Keep.of_ext E120
        have V120 : Ary Z h120 sa .int 2 (fun _ => .int (0 : Int32)) := Ary.new A120 (by decide) rfl
        refine k_dup X120 hx (q := 150) rfl (hb hby at_149) rfl ?_
        refine k_iconst X120 hx (v := (0 : Int32)) rfl (q := 151) rfl (hb hby at_150) ?_
        refine k_iload X120 hx (q := 153) rfl (hb hby at_151) rfl ?_
        have Sz126 : n0 ≤ h1.size := Nat.le_trans Z0 K1.1
        have Sz125 : n0 ≤ h2.size := Nat.le_trans Sz126 K2.1
        have Sz124 : n0 ≤ h3.size := Nat.le_trans Sz125 K3.1
        have Sz123 : n0 ≤ h4.size := Nat.le_trans Sz124 K4.1
        have Sz122 : n0 ≤ h5.size := Nat.le_trans Sz123 K5.1
        have ge_sa : n0 ≤ sa := Nat.le_trans Sz122 (Nat.le_of_eq g120.symm)
        refine k_asI X120 hx hZ e120 0 (q := 154) rfl (hb hby at_153) V120 ⟨by decide, by decide⟩ (by decide) ?_
        intro T121 h121 X121 e121 W121 V121
        have K121 := Keep.of_wr W121
        have N121 := Fr.snoc X121 N5 ge_sa
        refine k_dup X121 hx (q := 155) rfl (hb hby at_154) rfl ?_
        refine k_iconst X121 hx (v := (1 : Int32)) rfl (q := 156) rfl (hb hby at_155) ?_
        refine k_iload X121 hx (q := 158) rfl (hb hby at_156) rfl ?_
        refine k_asI X121 hx hZ e121 1 (q := 159) rfl (hb hby at_158) V121 ⟨by decide, by decide⟩ (by decide) ?_
        intro T127 h127 X127 e127 W127 V127
        have K127 := Keep.of_wr W127
        have N127 := Fr.snoc X127 N121 ge_sa
        have Vs : Ary Z h127 sa .int 2 (fun t => .int ((own_of s0 s1 s2 0 0) t)) := V127.congr fun t ht => by
          have : t = 0 ∨ t = 1 ∨ t = 2 ∨ t = 3 := by omega
          rcases this with rfl | rfl | rfl | rfl <;> first | rfl | (exact absurd ht (by decide))
        refine k_astore X127 hx (L' := #[.val (.int x0), .val (.int x1), .val (.int x2), .val (.int x3), .val (.int x4), .val (.int x5), .val (.ref ca), .val (.int n), .val (.int s0), .val (.int s1), .val (.int s2), .val (.int x5), .val (.int m1), .val (.int m2), .val (.int m3), .val (.ref sa), .unset, .unset, .unset, .unset, .unset, .unset]) (q := 161) rfl (hb hby at_159) rfl rfl ?_
        refine k_iconst X127 hx (v := (3 : Int32)) rfl (q := 162) rfl (hb hby at_161) ?_
        refine k_newP X127 hx hZ (hw _ (List.mem_of_getElem? (i := 1) rfl)) e127 (q := 164) rfl (hb hby at_162) (by decide) (cap := 3) (by decide) (by decide) (by decide) (by decide) ?_
        intro T128 h128 na k128 X128 e128 g128 E128 A128
        have K128 := Keep.of_ext E128
        have V128 : Ary Z h128 na .int 3 (fun _ => .int (0 : Int32)) := Ary.new A128 (by decide) rfl
        refine k_dup X128 hx (q := 165) rfl (hb hby at_164) rfl ?_
        refine k_iconst X128 hx (v := (0 : Int32)) rfl (q := 166) rfl (hb hby at_165) ?_
        refine k_iload X128 hx (q := 168) rfl (hb hby at_166) rfl ?_
        have Sz132 : n0 ≤ h120.size := Nat.le_trans Sz122 K120.1
        have Sz131 : n0 ≤ h121.size := Nat.le_trans Sz132 K121.1
        have Sz130 : n0 ≤ h127.size := Nat.le_trans Sz131 K127.1
        have ge_na : n0 ≤ na := Nat.le_trans Sz130 (Nat.le_of_eq g128.symm)
        refine k_asI X128 hx hZ e128 0 (q := 169) rfl (hb hby at_168) V128 ⟨by decide, by decide⟩ (by decide) ?_
        intro T129 h129 X129 e129 W129 V129
        have K129 := Keep.of_wr W129
        have N129 := Fr.snoc X129 N127 ge_na
        refine k_dup X129 hx (q := 170) rfl (hb hby at_169) rfl ?_
        refine k_iconst X129 hx (v := (1 : Int32)) rfl (q := 171) rfl (hb hby at_170) ?_
        refine k_iload X129 hx (q := 173) rfl (hb hby at_171) rfl ?_
        refine k_asI X129 hx hZ e129 1 (q := 174) rfl (hb hby at_173) V129 ⟨by decide, by decide⟩ (by decide) ?_
        intro T133 h133 X133 e133 W133 V133
        have K133 := Keep.of_wr W133
        have N133 := Fr.snoc X133 N129 ge_na
        refine k_dup X133 hx (q := 175) rfl (hb hby at_174) rfl ?_
        refine k_iconst X133 hx (v := (2 : Int32)) rfl (q := 176) rfl (hb hby at_175) ?_
        refine k_iload X133 hx (q := 178) rfl (hb hby at_176) rfl ?_
        refine k_asI X133 hx hZ e133 2 (q := 179) rfl (hb hby at_178) V133 ⟨by decide, by decide⟩ (by decide) ?_
        intro T134 h134 X134 e134 W134 V134
        have K134 := Keep.of_wr W134
        have N134 := Fr.snoc X134 N133 ge_na
        have Vn : Ary Z h134 na .int 3 (fun t => .int ((own_of x5 m1 m2 m3 0) t)) := V134.congr fun t ht => by
          have : t = 0 ∨ t = 1 ∨ t = 2 ∨ t = 3 := by omega
          rcases this with rfl | rfl | rfl | rfl <;> first | rfl | (exact absurd ht (by decide))
        refine k_astore X134 hx (L' := #[.val (.int x0), .val (.int x1), .val (.int x2), .val (.int x3), .val (.int x4), .val (.int x5), .val (.ref ca), .val (.int n), .val (.int s0), .val (.int s1), .val (.int s2), .val (.int x5), .val (.int m1), .val (.int m2), .val (.int m3), .val (.ref sa), .val (.ref na), .unset, .unset, .unset, .unset, .unset]) (q := 181) rfl (hb hby at_179) rfl rfl ?_
        refine k_goto X134 hx (q := 229) (by decide) (by decide) (hb hby at_181) ?_
        refine k_iconst X134 hx (v := (3 : Int32)) rfl (q := 230) rfl (hb hby at_229) ?_
        refine k_newP X134 hx hZ (hw _ (List.mem_of_getElem? (i := 1) rfl)) e134 (q := 232) rfl (hb hby at_230) (by decide) (cap := 3) (by decide) (by decide) (by decide) (by decide) ?_
        intro T135 h135 wsa k135 X135 e135 g135 E135 A135
        have K135 := Keep.of_ext E135
        have V135 : Ary Z h135 wsa .int 3 (fun _ => .int (0 : Int32)) := Ary.new A135 (by decide) rfl
        refine k_dup X135 hx (q := 233) rfl (hb hby at_232) rfl ?_
        refine k_iconst X135 hx (v := (0 : Int32)) rfl (q := 234) rfl (hb hby at_233) ?_
        refine k_iload X135 hx (q := 236) rfl (hb hby at_234) rfl ?_
        have Sz140 : n0 ≤ h128.size := Nat.le_trans Sz130 K128.1
        have Sz139 : n0 ≤ h129.size := Nat.le_trans Sz140 K129.1
        have Sz138 : n0 ≤ h133.size := Nat.le_trans Sz139 K133.1
        have Sz137 : n0 ≤ h134.size := Nat.le_trans Sz138 K134.1
        have ge_wsa : n0 ≤ wsa := Nat.le_trans Sz137 (Nat.le_of_eq g135.symm)
        refine k_asI X135 hx hZ e135 0 (q := 237) rfl (hb hby at_236) V135 ⟨by decide, by decide⟩ (by decide) ?_
        intro T136 h136 X136 e136 W136 V136
        have K136 := Keep.of_wr W136
        have N136 := Fr.snoc X136 N134 ge_wsa
        refine k_dup X136 hx (q := 238) rfl (hb hby at_237) rfl ?_
        refine k_iconst X136 hx (v := (1 : Int32)) rfl (q := 239) rfl (hb hby at_238) ?_
        refine k_iload X136 hx (q := 241) rfl (hb hby at_239) rfl ?_
        refine k_asI X136 hx hZ e136 1 (q := 242) rfl (hb hby at_241) V136 ⟨by decide, by decide⟩ (by decide) ?_
        intro T141 h141 X141 e141 W141 V141
        have K141 := Keep.of_wr W141
        have N141 := Fr.snoc X141 N136 ge_wsa
        refine k_dup X141 hx (q := 243) rfl (hb hby at_242) rfl ?_
        refine k_iconst X141 hx (v := (2 : Int32)) rfl (q := 244) rfl (hb hby at_243) ?_
        refine k_iload X141 hx (q := 246) rfl (hb hby at_244) rfl ?_
        refine k_asI X141 hx hZ e141 2 (q := 247) rfl (hb hby at_246) V141 ⟨by decide, by decide⟩ (by decide) ?_
        intro T142 h142 X142 e142 W142 V142
        have K142 := Keep.of_wr W142
        have N142 := Fr.snoc X142 N141 ge_wsa
        have Vws : Ary Z h142 wsa .int 3 (fun t => .int ((own_of s0 s1 s2 0 0) t)) := V142.congr fun t ht => by
          have : t = 0 ∨ t = 1 ∨ t = 2 ∨ t = 3 := by omega
          rcases this with rfl | rfl | rfl | rfl <;> first | rfl | (exact absurd ht (by decide))
        refine k_astore X142 hx (L' := #[.val (.int x0), .val (.int x1), .val (.int x2), .val (.int x3), .val (.int x4), .val (.int x5), .val (.ref ca), .val (.int n), .val (.int s0), .val (.int s1), .val (.int s2), .val (.int x5), .val (.int m1), .val (.int m2), .val (.int m3), .val (.ref sa), .val (.ref na), .val (.ref wsa), .unset, .unset, .unset, .unset]) (q := 249) rfl (hb hby at_247) rfl rfl ?_
        refine k_iconst X142 hx (v := (4 : Int32)) rfl (q := 250) rfl (hb hby at_249) ?_
        refine k_newP X142 hx hZ (hw _ (List.mem_of_getElem? (i := 1) rfl)) e142 (q := 252) rfl (hb hby at_250) (by decide) (cap := 4) (by decide) (by decide) (by decide) (by decide) ?_
        intro T143 h143 wna k143 X143 e143 g143 E143 A143
        have K143 := Keep.of_ext E143
        have V143 : Ary Z h143 wna .int 4 (fun _ => .int (0 : Int32)) := Ary.new A143 (by decide) rfl
        refine k_dup X143 hx (q := 253) rfl (hb hby at_252) rfl ?_
        refine k_iconst X143 hx (v := (0 : Int32)) rfl (q := 254) rfl (hb hby at_253) ?_
        refine k_iload X143 hx (q := 256) rfl (hb hby at_254) rfl ?_
        have Sz148 : n0 ≤ h135.size := Nat.le_trans Sz137 K135.1
        have Sz147 : n0 ≤ h136.size := Nat.le_trans Sz148 K136.1
        have Sz146 : n0 ≤ h141.size := Nat.le_trans Sz147 K141.1
        have Sz145 : n0 ≤ h142.size := Nat.le_trans Sz146 K142.1
        have ge_wna : n0 ≤ wna := Nat.le_trans Sz145 (Nat.le_of_eq g143.symm)
        refine k_asI X143 hx hZ e143 0 (q := 257) rfl (hb hby at_256) V143 ⟨by decide, by decide⟩ (by decide) ?_
        intro T144 h144 X144 e144 W144 V144
        have K144 := Keep.of_wr W144
        have N144 := Fr.snoc X144 N142 ge_wna
        refine k_dup X144 hx (q := 258) rfl (hb hby at_257) rfl ?_
        refine k_iconst X144 hx (v := (1 : Int32)) rfl (q := 259) rfl (hb hby at_258) ?_
        refine k_iload X144 hx (q := 261) rfl (hb hby at_259) rfl ?_
        refine k_asI X144 hx hZ e144 1 (q := 262) rfl (hb hby at_261) V144 ⟨by decide, by decide⟩ (by decide) ?_
        intro T149 h149 X149 e149 W149 V149
        have K149 := Keep.of_wr W149
        have N149 := Fr.snoc X149 N144 ge_wna
        refine k_dup X149 hx (q := 263) rfl (hb hby at_262) rfl ?_
        refine k_iconst X149 hx (v := (2 : Int32)) rfl (q := 264) rfl (hb hby at_263) ?_
        refine k_iload X149 hx (q := 266) rfl (hb hby at_264) rfl ?_
        refine k_asI X149 hx hZ e149 2 (q := 267) rfl (hb hby at_266) V149 ⟨by decide, by decide⟩ (by decide) ?_
        intro T150 h150 X150 e150 W150 V150
        have K150 := Keep.of_wr W150
        have N150 := Fr.snoc X150 N149 ge_wna
        refine k_dup X150 hx (q := 268) rfl (hb hby at_267) rfl ?_
        refine k_iconst X150 hx (v := (3 : Int32)) rfl (q := 269) rfl (hb hby at_268) ?_
        refine k_iload X150 hx (q := 271) rfl (hb hby at_269) rfl ?_
        refine k_asI X150 hx hZ e150 3 (q := 272) rfl (hb hby at_271) V150 ⟨by decide, by decide⟩ (by decide) ?_
        intro T151 h151 X151 e151 W151 V151
        have K151 := Keep.of_wr W151
        have N151 := Fr.snoc X151 N150 ge_wna
        have Vwn : Ary Z h151 wna .int 4 (fun t => .int ((own_of x5 m1 m2 m3 0) t)) := V151.congr fun t ht => by
          have : t = 0 ∨ t = 1 ∨ t = 2 ∨ t = 3 := by omega
          rcases this with rfl | rfl | rfl | rfl <;> first | rfl | (exact absurd ht (by decide))
        refine k_astore X151 hx (L' := #[.val (.int x0), .val (.int x1), .val (.int x2), .val (.int x3), .val (.int x4), .val (.int x5), .val (.ref ca), .val (.int n), .val (.int s0), .val (.int s1), .val (.int s2), .val (.int x5), .val (.int m1), .val (.int m2), .val (.int m3), .val (.ref sa), .val (.ref na), .val (.ref wsa), .val (.ref wna), .unset, .unset, .unset]) (q := 274) rfl (hb hby at_272) rfl rfl ?_
        refine k_aload X151 hx (q := 276) rfl (hb hby at_274) rfl rfl ?_
        refine k_aload X151 hx (q := 278) rfl (hb hby at_276) rfl rfl ?_
        refine k_aload X151 hx (q := 280) rfl (hb hby at_278) rfl rfl ?_
        have Sz156 : n0 ≤ h143.size := Nat.le_trans Sz145 K143.1
        have Sz155 : n0 ≤ h144.size := Nat.le_trans Sz156 K144.1
        have Sz154 : n0 ≤ h149.size := Nat.le_trans Sz155 K149.1
        have Sz153 : n0 ≤ h150.size := Nat.le_trans Sz154 K150.1
        have Sz152 : n0 ≤ h151.size := Nat.le_trans Sz153 K151.1
        have ne_sa_na : sa ≠ na := Nat.ne_of_lt (Nat.lt_of_lt_of_le (Vs).lt (Nat.le_of_eq g128.symm))
        have G157 := ((((Vs.keep K128 nin0).keep K129 (ninS ne_sa_na nin0)).keep K133 (ninS ne_sa_na nin0)).keep K134 (ninS ne_sa_na nin0))
        have ne_sa_wsa : sa ≠ wsa := Nat.ne_of_lt (Nat.lt_of_lt_of_le (G157).lt (Nat.le_of_eq g135.symm))
        have G158 := ((((G157.keep K135 nin0).keep K136 (ninS ne_sa_wsa nin0)).keep K141 (ninS ne_sa_wsa nin0)).keep K142 (ninS ne_sa_wsa nin0))
        have ne_sa_wna : sa ≠ wna := Nat.ne_of_lt (Nat.lt_of_lt_of_le (G158).lt (Nat.le_of_eq g143.symm))
        have G159 := (((((((((((((Vs.keep K128 nin0).keep K129 (ninS ne_sa_na nin0)).keep K133 (ninS ne_sa_na nin0)).keep K134 (ninS ne_sa_na nin0)).keep K135 nin0).keep K136 (ninS ne_sa_wsa nin0)).keep K141 (ninS ne_sa_wsa nin0)).keep K142 (ninS ne_sa_wsa nin0)).keep K143 nin0).keep K144 (ninS ne_sa_wna nin0)).keep K149 (ninS ne_sa_wna nin0)).keep K150 (ninS ne_sa_wna nin0)).keep K151 (ninS ne_sa_wna nin0))
        have ne_ca_sa : ca ≠ sa := Nat.ne_of_lt (Nat.lt_of_lt_of_le (Vc).lt (Nat.le_of_eq g120.symm))
        have G160 := (((Vc.keep K120 nin0).keep K121 (ninS ne_ca_sa nin0)).keep K127 (ninS ne_ca_sa nin0))
        have ne_ca_na : ca ≠ na := Nat.ne_of_lt (Nat.lt_of_lt_of_le (G160).lt (Nat.le_of_eq g128.symm))
        have G161 := ((((G160.keep K128 nin0).keep K129 (ninS ne_ca_na nin0)).keep K133 (ninS ne_ca_na nin0)).keep K134 (ninS ne_ca_na nin0))
        have ne_ca_wsa : ca ≠ wsa := Nat.ne_of_lt (Nat.lt_of_lt_of_le (G161).lt (Nat.le_of_eq g135.symm))
        have G162 := ((((G161.keep K135 nin0).keep K136 (ninS ne_ca_wsa nin0)).keep K141 (ninS ne_ca_wsa nin0)).keep K142 (ninS ne_ca_wsa nin0))
        have ne_ca_wna : ca ≠ wna := Nat.ne_of_lt (Nat.lt_of_lt_of_le (G162).lt (Nat.le_of_eq g143.symm))
        have G163 := ((((((((((((((((Vc.keep K120 nin0).keep K121 (ninS ne_ca_sa nin0)).keep K127 (ninS ne_ca_sa nin0)).keep K128 nin0).keep K129 (ninS ne_ca_na nin0)).keep K133 (ninS ne_ca_na nin0)).keep K134 (ninS ne_ca_na nin0)).keep K135 nin0).keep K136 (ninS ne_ca_wsa nin0)).keep K141 (ninS ne_ca_wsa nin0)).keep K142 (ninS ne_ca_wsa nin0)).keep K143 nin0).keep K144 (ninS ne_ca_wna nin0)).keep K149 (ninS ne_ca_wna nin0)).keep K150 (ninS ne_ca_wna nin0)).keep K151 (ninS ne_ca_wna nin0))
        refine k_callS X151 hx hZ (y := (⟨"com/example/footwise/footwise/search/Route", "of", "([I[I[D)Lcom/example/footwise/footwise/search/Route;"⟩ : MethodName)) hown (hw _ (List.mem_of_getElem? (i := 2) rfl)) (hw _ (List.mem_of_getElem? (i := 3) rfl)) (hw _ (List.mem_of_getElem? (i := 4) rfl)) (hw _ (List.mem_of_getElem? (i := 5) rfl)) (by decide) 0 e151 (rm1 l Z a0 hw na sa ca h151 n0 Sz152 2 (by decide) (own_of s0 s1 s2 0 0) si (fun t ht => hsc t (by omega)) (own_of x0 x1 x2 x3 0) G159 G163) (by decide) (by decide) (by decide) (by decide) (by rw [hml]; rfl) (as := [(.ref na), (.ref sa), (.ref ca)]) (rest := []) pd_2 rfl (by first | exact Nat.le_refl _ | simp [Value.category]) (q := 283) rfl (hb hby at_280) ?_
        rintro _ T164 L164 X164 ⟨ra, rfl, N164q, K164, le164, E164, Fn164, Fs164, Fc164⟩
        have N164 := Fr.app N151 N164q
        show End _ _ _ _ _ _ _ (T164.setTop (mkF m 283 #[.val (.int x0), .val (.int x1), .val (.int x2), .val (.int x3), .val (.int x4), .val (.int x5), .val (.ref ca), .val (.int n), .val (.int s0), .val (.int s1), .val (.int s2), .val (.int x5), .val (.int m1), .val (.int m2), .val (.int m3), .val (.ref sa), .val (.ref na), .val (.ref wsa), .val (.ref wna), .unset, .unset, .unset] [(.ref ra)]))
        refine k_astore X164 hx (L' := #[.val (.int x0), .val (.int x1), .val (.int x2), .val (.int x3), .val (.int x4), .val (.int x5), .val (.ref ca), .val (.int n), .val (.int s0), .val (.int s1), .val (.int s2), .val (.int x5), .val (.int m1), .val (.int m2), .val (.int m3), .val (.ref sa), .val (.ref na), .val (.ref wsa), .val (.ref wna), .val (.ref ra), .unset, .unset]) (q := 285) rfl (hb hby at_283) rfl rfl ?_
        refine k_dconst0 X164 hx (q := 286) rfl (hb hby at_285) (v := (0 : UInt64)) (by decide) ?_
        refine k_dstore X164 hx (L' := #[.val (.int x0), .val (.int x1), .val (.int x2), .val (.int x3), .val (.int x4), .val (.int x5), .val (.ref ca), .val (.int n), .val (.int s0), .val (.int s1), .val (.int s2), .val (.int x5), .val (.int m1), .val (.int m2), .val (.int m3), .val (.ref sa), .val (.ref na), .val (.ref wsa), .val (.ref wna), .val (.ref ra), .val (.double (0 : UInt64)), .second]) (q := 288) rfl (hb hby at_286) rfl ?_
        rw [show (0 : UInt64) = FP.l2d (own_sum (own_of x0 x1 x2 x3 0) si 0) from Jvm.RoadKit.l2d_zero.symm]
        show End _ _ _ _ _ _ _ (T164.setTop (mkF m 288 #[.val (.int x0), .val (.int x1), .val (.int x2), .val (.int x3), .val (.int x4), .val (.int x5), .val (.ref ca), .val (.int n), .val (.int s0), .val (.int s1), .val (.int s2), .val (.int x5), .val (.int m1), .val (.int m2), .val (.int m3), .val (.ref sa), .val (.ref na), .val (.ref wsa), .val (.ref wna), .val (.ref ra), .val (.double (FP.l2d (own_sum (own_of x0 x1 x2 x3 0) si 0))), .second] []))
        refine k_iload X164 hx (q := 290) rfl (hb hby at_288) rfl ?_
        refine k_iconst X164 hx (v := (1 : Int32)) rfl (q := 291) rfl (hb hby at_290) ?_
        refine k_icmp_lt X164 hx (q1 := 308) (q := 294) (by decide) (by decide) rfl (hb hby at_291) (fun hc => absurd hc (fun q => by have := (own_lt (k := k) (n := 1) hk ⟨by decide, by decide⟩).mp q; omega)) (fun _ => ?_)
        refine k_dload X164 hx (q := 296) rfl (hb hby at_294) rfl ?_
        refine k_iloadN X164 hx (q := 297) rfl (hb hby at_296) rfl ?_
        refine k_iloadN X164 hx (q := 298) rfl (hb hby at_297) rfl ?_
        refine k_iloadN X164 hx (q := 299) rfl (hb hby at_298) rfl ?_
        refine k_iloadN X164 hx (q := 300) rfl (hb hby at_299) rfl ?_
        refine k_iload X164 hx (q := 302) rfl (hb hby at_300) rfl ?_
        refine k_callS X164 hx hZ (y := (⟨"com/example/footwise/footwise/search/RouteOfPinLaw", "pick", "(IIIII)D"⟩ : MethodName)) hown (hw _ (List.mem_of_getElem? (i := 44) rfl)) (hw _ (List.mem_of_getElem? (i := 45) rfl)) (hw _ (List.mem_of_getElem? (i := 37) rfl)) (hw _ (List.mem_of_getElem? (i := 46) rfl)) (by decide) 2 rfl (rm9 l Z a0 hw x0 x1 x2 x3 s0 T164.heap n0) (by decide) (by decide) (by decide) (by decide) (by rw [hml]; rfl) (as := [(.int x0), (.int x1), (.int x2), (.int x3), (.int s0)]) (rest := [(.double (FP.l2d (own_sum (own_of x0 x1 x2 x3 0) si 0)))]) pd_6 rfl (by first | exact Nat.le_refl _ | simp [Value.category]) (q := 305) rfl (hb hby at_302) ?_
        rintro _ T166 L166 X166 ⟨rfl, N166q, e166⟩
        have N166 := Fr.app N164 N166q
        show End _ _ _ _ _ _ _ (T166.setTop (mkF m 305 #[.val (.int x0), .val (.int x1), .val (.int x2), .val (.int x3), .val (.int x4), .val (.int x5), .val (.ref ca), .val (.int n), .val (.int s0), .val (.int s1), .val (.int s2), .val (.int x5), .val (.int m1), .val (.int m2), .val (.int m3), .val (.ref sa), .val (.ref na), .val (.ref wsa), .val (.ref wna), .val (.ref ra), .val (.double (FP.l2d (own_sum (own_of x0 x1 x2 x3 0) si 0))), .second] [(.double (f9 x0 x1 x2 x3 s0)), (.double (FP.l2d (own_sum (own_of x0 x1 x2 x3 0) si 0)))]))
        have hadd0 : FP.dadd (FP.l2d (own_sum (own_of x0 x1 x2 x3 0) si 0)) (f9 x0 x1 x2 x3 s0) = FP.l2d (own_sum (own_of x0 x1 x2 x3 0) si 1) := by
          rw [own_pick x0 x1 x2 x3 hi0 hi04]
          have := own_add (own_of x0 x1 x2 x3 0) si (i := 0) (by decide)
          rw [hsi] at this ⊢; exact this
        refine k_dadd X166 hx (q := 306) rfl (hb hby at_305) (v := (FP.l2d (own_sum (own_of x0 x1 x2 x3 0) si 1))) (Jvm.RoadKit.nn_w hadd0) hadd0 ?_
        refine k_dstore X166 hx (L' := #[.val (.int x0), .val (.int x1), .val (.int x2), .val (.int x3), .val (.int x4), .val (.int x5), .val (.ref ca), .val (.int n), .val (.int s0), .val (.int s1), .val (.int s2), .val (.int x5), .val (.int m1), .val (.int m2), .val (.int m3), .val (.ref sa), .val (.ref na), .val (.ref wsa), .val (.ref wna), .val (.ref ra), .val (.double (FP.l2d (own_sum (own_of x0 x1 x2 x3 0) si 1))), .second]) (q := 308) rfl (hb hby at_306) rfl ?_
        refine k_iload X166 hx (q := 310) rfl (hb hby at_308) rfl ?_
        refine k_iconst X166 hx (v := (2 : Int32)) rfl (q := 311) rfl (hb hby at_310) ?_
        refine k_icmp_lt X166 hx (q1 := 328) (q := 314) (by decide) (by decide) rfl (hb hby at_311) (fun hc => absurd hc (fun q => by have := (own_lt (k := k) (n := 2) hk ⟨by decide, by decide⟩).mp q; omega)) (fun _ => ?_)
        refine k_dload X166 hx (q := 316) rfl (hb hby at_314) rfl ?_
        refine k_iloadN X166 hx (q := 317) rfl (hb hby at_316) rfl ?_
        refine k_iloadN X166 hx (q := 318) rfl (hb hby at_317) rfl ?_
        refine k_iloadN X166 hx (q := 319) rfl (hb hby at_318) rfl ?_
        refine k_iloadN X166 hx (q := 320) rfl (hb hby at_319) rfl ?_
        refine k_iload X166 hx (q := 322) rfl (hb hby at_320) rfl ?_
        refine k_callS X166 hx hZ (y := (⟨"com/example/footwise/footwise/search/RouteOfPinLaw", "pick", "(IIIII)D"⟩ : MethodName)) hown (hw _ (List.mem_of_getElem? (i := 44) rfl)) (hw _ (List.mem_of_getElem? (i := 45) rfl)) (hw _ (List.mem_of_getElem? (i := 37) rfl)) (hw _ (List.mem_of_getElem? (i := 46) rfl)) (by decide) 2 e166 (rm9 l Z a0 hw x0 x1 x2 x3 s1 T164.heap n0) (by decide) (by decide) (by decide) (by decide) (by rw [hml]; rfl) (as := [(.int x0), (.int x1), (.int x2), (.int x3), (.int s1)]) (rest := [(.double (FP.l2d (own_sum (own_of x0 x1 x2 x3 0) si 1)))]) pd_6 rfl (by first | exact Nat.le_refl _ | simp [Value.category]) (q := 325) rfl (hb hby at_322) ?_
        rintro _ T168 L168 X168 ⟨rfl, N168q, e168⟩
        have N168 := Fr.app N166 N168q
        show End _ _ _ _ _ _ _ (T168.setTop (mkF m 325 #[.val (.int x0), .val (.int x1), .val (.int x2), .val (.int x3), .val (.int x4), .val (.int x5), .val (.ref ca), .val (.int n), .val (.int s0), .val (.int s1), .val (.int s2), .val (.int x5), .val (.int m1), .val (.int m2), .val (.int m3), .val (.ref sa), .val (.ref na), .val (.ref wsa), .val (.ref wna), .val (.ref ra), .val (.double (FP.l2d (own_sum (own_of x0 x1 x2 x3 0) si 1))), .second] [(.double (f9 x0 x1 x2 x3 s1)), (.double (FP.l2d (own_sum (own_of x0 x1 x2 x3 0) si 1)))]))
        have hadd1 : FP.dadd (FP.l2d (own_sum (own_of x0 x1 x2 x3 0) si 1)) (f9 x0 x1 x2 x3 s1) = FP.l2d (own_sum (own_of x0 x1 x2 x3 0) si 2) := by
          rw [own_pick x0 x1 x2 x3 hi1 hi14]
          have := own_add (own_of x0 x1 x2 x3 0) si (i := 1) (by decide)
          rw [hsi] at this ⊢; exact this
        refine k_dadd X168 hx (q := 326) rfl (hb hby at_325) (v := (FP.l2d (own_sum (own_of x0 x1 x2 x3 0) si 2))) (Jvm.RoadKit.nn_w hadd1) hadd1 ?_
        refine k_dstore X168 hx (L' := #[.val (.int x0), .val (.int x1), .val (.int x2), .val (.int x3), .val (.int x4), .val (.int x5), .val (.ref ca), .val (.int n), .val (.int s0), .val (.int s1), .val (.int s2), .val (.int x5), .val (.int m1), .val (.int m2), .val (.int m3), .val (.ref sa), .val (.ref na), .val (.ref wsa), .val (.ref wna), .val (.ref ra), .val (.double (FP.l2d (own_sum (own_of x0 x1 x2 x3 0) si 2))), .second]) (q := 328) rfl (hb hby at_326) rfl ?_
        refine k_iload X168 hx (q := 330) rfl (hb hby at_328) rfl ?_
        refine k_iconst X168 hx (v := (3 : Int32)) rfl (q := 331) rfl (hb hby at_330) ?_
        refine k_icmp_lt X168 hx (q1 := 348) (q := 334) (by decide) (by decide) rfl (hb hby at_331) (fun _ => ?_) (fun hc => absurd ((own_lt (k := k) (n := 3) hk ⟨by decide, by decide⟩).mpr (by omega)) hc)
        refine k_aload X168 hx (q := 350) rfl (hb hby at_348) rfl rfl ?_
        refine k_callV X168 hx hZ (y := (⟨"com/example/footwise/footwise/search/Route", "cost", "()D"⟩ : MethodName)) (z := (⟨"com/example/footwise/footwise/search/Route", "cost", "()D"⟩ : MethodName)) hown (hw _ (List.mem_of_getElem? (i := 25) rfl)) (hw _ (List.mem_of_getElem? (i := 26) rfl)) (notFace_of_selects (args := #[]) (mvT hZ (hw _ (List.mem_of_getElem? (i := 28) rfl)))) (hw _ (List.mem_of_getElem? (i := 28) rfl)) (hw _ (List.mem_of_getElem? (i := 27) rfl)) (hw _ (List.mem_of_getElem? (i := 29) rfl)) (hw _ (List.mem_of_getElem? (i := 4) rfl)) (by decide) E164 0 e168 (rm5 l Z a0 hw ra T164.heap n0 _ Fc164) (by decide) (by decide) (by decide) (by decide) (by rw [hml]; rfl) (a := ra) (as := []) (rest := []) pd_3 rfl (by first | exact Nat.le_refl _ | simp [Value.category]) (q := 353) rfl (hb hby at_350) ?_
        rintro _ T170 L170 X170 ⟨rfl, N170q, e170⟩
        have N170 := Fr.app N168 N170q
        show End _ _ _ _ _ _ _ (T170.setTop (mkF m 353 #[.val (.int x0), .val (.int x1), .val (.int x2), .val (.int x3), .val (.int x4), .val (.int x5), .val (.ref ca), .val (.int n), .val (.int s0), .val (.int s1), .val (.int s2), .val (.int x5), .val (.int m1), .val (.int m2), .val (.int m3), .val (.ref sa), .val (.ref na), .val (.ref wsa), .val (.ref wna), .val (.ref ra), .val (.double (FP.l2d (own_sum (own_of x0 x1 x2 x3 0) si 2))), .second] [(.double (FP.l2d (own_sum (own_of x0 x1 x2 x3 0) si 2)))]))
        refine k_dload X170 hx (q := 355) rfl (hb hby at_353) rfl ?_
        refine k_dcmp X170 hx (q := 356) rfl (hb hby at_355) (v := 0) (Jvm.RoadKit.dcmpV_self (Fl.l2d_fin _).noNaN _) ?_
        refine k_if_ne X170 hx (q1 := 395) (q := 359) (by decide) (by decide) rfl (hb hby at_356) (fun hc => absurd rfl hc) (fun _ => ?_)
        have hkk : Ix n 2 := by
          have : k = 2 := by omega
          rwa [this] at hk
        have hnn : (2 : Nat).toInt32 = n := Int32.toInt_inj.mp (by rw [hkk.int]; decide)
        refine k_aload X170 hx (q := 361) rfl (hb hby at_359) rfl rfl ?_
        refine k_callV X170 hx hZ (y := (⟨"com/example/footwise/footwise/search/Route", "sections", "()[I"⟩ : MethodName)) (z := (⟨"com/example/footwise/footwise/search/Route", "sections", "()[I"⟩ : MethodName)) hown (hw _ (List.mem_of_getElem? (i := 30) rfl)) (hw _ (List.mem_of_getElem? (i := 31) rfl)) (notFace_of_selects (args := #[]) (mvT hZ (hw _ (List.mem_of_getElem? (i := 33) rfl)))) (hw _ (List.mem_of_getElem? (i := 33) rfl)) (hw _ (List.mem_of_getElem? (i := 32) rfl)) (hw _ (List.mem_of_getElem? (i := 34) rfl)) (hw _ (List.mem_of_getElem? (i := 4) rfl)) (by decide) E164 0 e170 (rm6 l Z a0 hw ra T164.heap n0 sa Fs164) (by decide) (by decide) (by decide) (by decide) (by rw [hml]; rfl) (a := ra) (as := []) (rest := []) pd_4 rfl (by first | exact Nat.le_refl _ | simp [Value.category]) (q := 364) rfl (hb hby at_361) ?_
        rintro _ T172 L172 X172 ⟨rfl, N172q, e172⟩
        have N172 := Fr.app N170 N172q
        show End _ _ _ _ _ _ _ (T172.setTop (mkF m 364 #[.val (.int x0), .val (.int x1), .val (.int x2), .val (.int x3), .val (.int x4), .val (.int x5), .val (.ref ca), .val (.int n), .val (.int s0), .val (.int s1), .val (.int s2), .val (.int x5), .val (.int m1), .val (.int m2), .val (.int m3), .val (.ref sa), .val (.ref na), .val (.ref wsa), .val (.ref wna), .val (.ref ra), .val (.double (FP.l2d (own_sum (own_of x0 x1 x2 x3 0) si 2))), .second] [(.ref sa)]))
        refine k_aload X172 hx (q := 366) rfl (hb hby at_364) rfl rfl ?_
        refine k_iload X172 hx (q := 368) rfl (hb hby at_366) rfl ?_
        have G173 := (G159.keep K164 nin0)
        have ne_wsa_wna : wsa ≠ wna := Nat.ne_of_lt (Nat.lt_of_lt_of_le (Vws).lt (Nat.le_of_eq g143.symm))
        have G174 := ((((((Vws.keep K143 nin0).keep K144 (ninS ne_wsa_wna nin0)).keep K149 (ninS ne_wsa_wna nin0)).keep K150 (ninS ne_wsa_wna nin0)).keep K151 (ninS ne_wsa_wna nin0)).keep K164 nin0)
        refine k_callS X172 hx hZ (y := (⟨"com/example/footwise/footwise/search/RouteOfPinLaw", "same", "([I[II)Z"⟩ : MethodName)) hown (hw _ (List.mem_of_getElem? (i := 35) rfl)) (hw _ (List.mem_of_getElem? (i := 36) rfl)) (hw _ (List.mem_of_getElem? (i := 37) rfl)) (hw _ (List.mem_of_getElem? (i := 38) rfl)) (by decide) 0 e172 (rm7 l Z a0 hw sa wsa n T164.heap n0 2 3 hkk hnn (by decide) (own_of s0 s1 s2 0 0) (own_of s0 s1 s2 0 0) (fun _ _ => rfl) G173 G174) (by decide) (by decide) (by decide) (by decide) (by rw [hml]; rfl) (as := [(.ref sa), (.ref wsa), (.int n)]) (rest := []) pd_5 rfl (by first | exact Nat.le_refl _ | simp [Value.category]) (q := 371) rfl (hb hby at_368) ?_
        rintro _ T175 L175 X175 ⟨rfl, N175q, e175⟩
        have N175 := Fr.app N172 N175q
        show End _ _ _ _ _ _ _ (T175.setTop (mkF m 371 #[.val (.int x0), .val (.int x1), .val (.int x2), .val (.int x3), .val (.int x4), .val (.int x5), .val (.ref ca), .val (.int n), .val (.int s0), .val (.int s1), .val (.int s2), .val (.int x5), .val (.int m1), .val (.int m2), .val (.int m3), .val (.ref sa), .val (.ref na), .val (.ref wsa), .val (.ref wna), .val (.ref ra), .val (.double (FP.l2d (own_sum (own_of x0 x1 x2 x3 0) si 2))), .second] [(.int (1 : Int32))]))
        refine k_if_eq X175 hx (q1 := 395) (q := 374) (by decide) (by decide) rfl (hb hby at_371) (fun hc => absurd hc (by decide)) (fun _ => ?_)
        refine k_aload X175 hx (q := 376) rfl (hb hby at_374) rfl rfl ?_
        refine k_callV X175 hx hZ (y := (⟨"com/example/footwise/footwise/search/Route", "nodes", "()[I"⟩ : MethodName)) (z := (⟨"com/example/footwise/footwise/search/Route", "nodes", "()[I"⟩ : MethodName)) hown (hw _ (List.mem_of_getElem? (i := 39) rfl)) (hw _ (List.mem_of_getElem? (i := 40) rfl)) (notFace_of_selects (args := #[]) (mvT hZ (hw _ (List.mem_of_getElem? (i := 42) rfl)))) (hw _ (List.mem_of_getElem? (i := 42) rfl)) (hw _ (List.mem_of_getElem? (i := 41) rfl)) (hw _ (List.mem_of_getElem? (i := 43) rfl)) (hw _ (List.mem_of_getElem? (i := 4) rfl)) (by decide) E164 0 e175 (rm8 l Z a0 hw ra T164.heap n0 na Fn164) (by decide) (by decide) (by decide) (by decide) (by rw [hml]; rfl) (a := ra) (as := []) (rest := []) pd_4 rfl (by first | exact Nat.le_refl _ | simp [Value.category]) (q := 379) rfl (hb hby at_376) ?_
        rintro _ T177 L177 X177 ⟨rfl, N177q, e177⟩
        have N177 := Fr.app N175 N177q
        show End _ _ _ _ _ _ _ (T177.setTop (mkF m 379 #[.val (.int x0), .val (.int x1), .val (.int x2), .val (.int x3), .val (.int x4), .val (.int x5), .val (.ref ca), .val (.int n), .val (.int s0), .val (.int s1), .val (.int s2), .val (.int x5), .val (.int m1), .val (.int m2), .val (.int m3), .val (.ref sa), .val (.ref na), .val (.ref wsa), .val (.ref wna), .val (.ref ra), .val (.double (FP.l2d (own_sum (own_of x0 x1 x2 x3 0) si 2))), .second] [(.ref na)]))
        refine k_aload X177 hx (q := 381) rfl (hb hby at_379) rfl rfl ?_
        refine k_iload X177 hx (q := 383) rfl (hb hby at_381) rfl ?_
        refine k_iconst X177 hx (v := (1 : Int32)) rfl (q := 384) rfl (hb hby at_383) ?_
        refine k_iadd X177 hx (q := 385) rfl (hb hby at_384) ?_
        have ne_na_wsa : na ≠ wsa := Nat.ne_of_lt (Nat.lt_of_lt_of_le (Vn).lt (Nat.le_of_eq g135.symm))
        have G178 := ((((Vn.keep K135 nin0).keep K136 (ninS ne_na_wsa nin0)).keep K141 (ninS ne_na_wsa nin0)).keep K142 (ninS ne_na_wsa nin0))
        have ne_na_wna : na ≠ wna := Nat.ne_of_lt (Nat.lt_of_lt_of_le (G178).lt (Nat.le_of_eq g143.symm))
        have G179 := ((((((((((Vn.keep K135 nin0).keep K136 (ninS ne_na_wsa nin0)).keep K141 (ninS ne_na_wsa nin0)).keep K142 (ninS ne_na_wsa nin0)).keep K143 nin0).keep K144 (ninS ne_na_wna nin0)).keep K149 (ninS ne_na_wna nin0)).keep K150 (ninS ne_na_wna nin0)).keep K151 (ninS ne_na_wna nin0)).keep K164 nin0)
        have G180 := (Vwn.keep K164 nin0)
        have hk1 := own_up hkk (by decide)
        have hnn1 : (3 : Nat).toInt32 = n + (1 : Int32) := Int32.toInt_inj.mp (by rw [hk1.int]; decide)
        refine k_callS X177 hx hZ (y := (⟨"com/example/footwise/footwise/search/RouteOfPinLaw", "same", "([I[II)Z"⟩ : MethodName)) hown (hw _ (List.mem_of_getElem? (i := 35) rfl)) (hw _ (List.mem_of_getElem? (i := 36) rfl)) (hw _ (List.mem_of_getElem? (i := 37) rfl)) (hw _ (List.mem_of_getElem? (i := 38) rfl)) (by decide) 0 e177 (rm7 l Z a0 hw na wna (n + (1 : Int32)) T164.heap n0 3 4 hk1 hnn1 (by decide) (own_of x5 m1 m2 m3 0) (own_of x5 m1 m2 m3 0) (fun _ _ => rfl) G179 G180) (by decide) (by decide) (by decide) (by decide) (by rw [hml]; rfl) (as := [(.ref na), (.ref wna), (.int (n + (1 : Int32)))]) (rest := []) pd_5 rfl (by first | exact Nat.le_refl _ | simp [Value.category]) (q := 388) rfl (hb hby at_385) ?_
        rintro _ T181 L181 X181 ⟨rfl, N181q, e181⟩
        have N181 := Fr.app N177 N181q
        show End _ _ _ _ _ _ _ (T181.setTop (mkF m 388 #[.val (.int x0), .val (.int x1), .val (.int x2), .val (.int x3), .val (.int x4), .val (.int x5), .val (.ref ca), .val (.int n), .val (.int s0), .val (.int s1), .val (.int s2), .val (.int x5), .val (.int m1), .val (.int m2), .val (.int m3), .val (.ref sa), .val (.ref na), .val (.ref wsa), .val (.ref wna), .val (.ref ra), .val (.double (FP.l2d (own_sum (own_of x0 x1 x2 x3 0) si 2))), .second] [(.int (1 : Int32))]))
        refine k_if_eq X181 hx (q1 := 395) (q := 391) (by decide) (by decide) rfl (hb hby at_388) (fun hc => absurd hc (by decide)) (fun _ => ?_)
        refine k_iconst X181 hx (v := (1 : Int32)) rfl (q := 392) rfl (hb hby at_391) ?_
        refine k_goto X181 hx (q := 396) (by decide) (by decide) (hb hby at_392) ?_
        exact k_retN X181 hx (t := .boolean) hlk (by decide) (by decide) hret (by simp) (hb hby at_396) ⟨rfl, N181⟩
    · have hk0 : k = 1 := (own_eqi hk (m := (1 : Int32)) (n := 1) ⟨by decide, by decide⟩).mp hc60
      refine k_iconst X5 hx (v := (1 : Int32)) rfl (q := 113) rfl (hb hby at_112) ?_
      refine k_newP X5 hx hZ (hw _ (List.mem_of_getElem? (i := 1) rfl)) e5 (q := 115) rfl (hb hby at_113) (by decide) (cap := 1) (by decide) (by decide) (by decide) (by decide) ?_
      intro T61 h61 sa k61 X61 e61 g61 E61 A61
      have K61 := Keep.of_ext E61
      have V61 : Ary Z h61 sa .int 1 (fun _ => .int (0 : Int32)) := Ary.new A61 (by decide) rfl
      refine k_dup X61 hx (q := 116) rfl (hb hby at_115) rfl ?_
      refine k_iconst X61 hx (v := (0 : Int32)) rfl (q := 117) rfl (hb hby at_116) ?_
      refine k_iload X61 hx (q := 119) rfl (hb hby at_117) rfl ?_
      have Sz67 : n0 ≤ h1.size := Nat.le_trans Z0 K1.1
      have Sz66 : n0 ≤ h2.size := Nat.le_trans Sz67 K2.1
      have Sz65 : n0 ≤ h3.size := Nat.le_trans Sz66 K3.1
      have Sz64 : n0 ≤ h4.size := Nat.le_trans Sz65 K4.1
      have Sz63 : n0 ≤ h5.size := Nat.le_trans Sz64 K5.1
      have ge_sa : n0 ≤ sa := Nat.le_trans Sz63 (Nat.le_of_eq g61.symm)
      refine k_asI X61 hx hZ e61 0 (q := 120) rfl (hb hby at_119) V61 ⟨by decide, by decide⟩ (by decide) ?_
      intro T62 h62 X62 e62 W62 V62
      have K62 := Keep.of_wr W62
      have N62 := Fr.snoc X62 N5 ge_sa
      have Vs : Ary Z h62 sa .int 1 (fun t => .int ((own_of s0 s1 s2 0 0) t)) := V62.congr fun t ht => by
        have : t = 0 ∨ t = 1 ∨ t = 2 ∨ t = 3 := by omega
        rcases this with rfl | rfl | rfl | rfl <;> first | rfl | (exact absurd ht (by decide))
      refine k_astore X62 hx (L' := #[.val (.int x0), .val (.int x1), .val (.int x2), .val (.int x3), .val (.int x4), .val (.int x5), .val (.ref ca), .val (.int n), .val (.int s0), .val (.int s1), .val (.int s2), .val (.int x5), .val (.int m1), .val (.int m2), .val (.int m3), .val (.ref sa), .unset, .unset, .unset, .unset, .unset, .unset]) (q := 122) rfl (hb hby at_120) rfl rfl ?_
      refine k_iconst X62 hx (v := (2 : Int32)) rfl (q := 123) rfl (hb hby at_122) ?_
      refine k_newP X62 hx hZ (hw _ (List.mem_of_getElem? (i := 1) rfl)) e62 (q := 125) rfl (hb hby at_123) (by decide) (cap := 2) (by decide) (by decide) (by decide) (by decide) ?_
      intro T68 h68 na k68 X68 e68 g68 E68 A68
      have K68 := Keep.of_ext E68
      have V68 : Ary Z h68 na .int 2 (fun _ => .int (0 : Int32)) := Ary.new A68 (by decide) rfl
      refine k_dup X68 hx (q := 126) rfl (hb hby at_125) rfl ?_
      refine k_iconst X68 hx (v := (0 : Int32)) rfl (q := 127) rfl (hb hby at_126) ?_
      refine k_iload X68 hx (q := 129) rfl (hb hby at_127) rfl ?_
      have Sz71 : n0 ≤ h61.size := Nat.le_trans Sz63 K61.1
      have Sz70 : n0 ≤ h62.size := Nat.le_trans Sz71 K62.1
      have ge_na : n0 ≤ na := Nat.le_trans Sz70 (Nat.le_of_eq g68.symm)
      refine k_asI X68 hx hZ e68 0 (q := 130) rfl (hb hby at_129) V68 ⟨by decide, by decide⟩ (by decide) ?_
      intro T69 h69 X69 e69 W69 V69
      have K69 := Keep.of_wr W69
      have N69 := Fr.snoc X69 N62 ge_na
      refine k_dup X69 hx (q := 131) rfl (hb hby at_130) rfl ?_
      refine k_iconst X69 hx (v := (1 : Int32)) rfl (q := 132) rfl (hb hby at_131) ?_
      refine k_iload X69 hx (q := 134) rfl (hb hby at_132) rfl ?_
      refine k_asI X69 hx hZ e69 1 (q := 135) rfl (hb hby at_134) V69 ⟨by decide, by decide⟩ (by decide) ?_
      intro T72 h72 X72 e72 W72 V72
      have K72 := Keep.of_wr W72
      have N72 := Fr.snoc X72 N69 ge_na
      have Vn : Ary Z h72 na .int 2 (fun t => .int ((own_of x5 m1 m2 m3 0) t)) := V72.congr fun t ht => by
        have : t = 0 ∨ t = 1 ∨ t = 2 ∨ t = 3 := by omega
        rcases this with rfl | rfl | rfl | rfl <;> first | rfl | (exact absurd ht (by decide))
      refine k_astore X72 hx (L' := #[.val (.int x0), .val (.int x1), .val (.int x2), .val (.int x3), .val (.int x4), .val (.int x5), .val (.ref ca), .val (.int n), .val (.int s0), .val (.int s1), .val (.int s2), .val (.int x5), .val (.int m1), .val (.int m2), .val (.int m3), .val (.ref sa), .val (.ref na), .unset, .unset, .unset, .unset, .unset]) (q := 137) rfl (hb hby at_135) rfl rfl ?_
      refine k_goto X72 hx (q := 229) (by decide) (by decide) (hb hby at_137) ?_
      refine k_iconst X72 hx (v := (3 : Int32)) rfl (q := 230) rfl (hb hby at_229) ?_
      refine k_newP X72 hx hZ (hw _ (List.mem_of_getElem? (i := 1) rfl)) e72 (q := 232) rfl (hb hby at_230) (by decide) (cap := 3) (by decide) (by decide) (by decide) (by decide) ?_
      intro T73 h73 wsa k73 X73 e73 g73 E73 A73
      have K73 := Keep.of_ext E73
      have V73 : Ary Z h73 wsa .int 3 (fun _ => .int (0 : Int32)) := Ary.new A73 (by decide) rfl
      refine k_dup X73 hx (q := 233) rfl (hb hby at_232) rfl ?_
      refine k_iconst X73 hx (v := (0 : Int32)) rfl (q := 234) rfl (hb hby at_233) ?_
      refine k_iload X73 hx (q := 236) rfl (hb hby at_234) rfl ?_
      have Sz77 : n0 ≤ h68.size := Nat.le_trans Sz70 K68.1
      have Sz76 : n0 ≤ h69.size := Nat.le_trans Sz77 K69.1
      have Sz75 : n0 ≤ h72.size := Nat.le_trans Sz76 K72.1
      have ge_wsa : n0 ≤ wsa := Nat.le_trans Sz75 (Nat.le_of_eq g73.symm)
      refine k_asI X73 hx hZ e73 0 (q := 237) rfl (hb hby at_236) V73 ⟨by decide, by decide⟩ (by decide) ?_
      intro T74 h74 X74 e74 W74 V74
      have K74 := Keep.of_wr W74
      have N74 := Fr.snoc X74 N72 ge_wsa
      refine k_dup X74 hx (q := 238) rfl (hb hby at_237) rfl ?_
      refine k_iconst X74 hx (v := (1 : Int32)) rfl (q := 239) rfl (hb hby at_238) ?_
      refine k_iload X74 hx (q := 241) rfl (hb hby at_239) rfl ?_
      refine k_asI X74 hx hZ e74 1 (q := 242) rfl (hb hby at_241) V74 ⟨by decide, by decide⟩ (by decide) ?_
      intro T78 h78 X78 e78 W78 V78
      have K78 := Keep.of_wr W78
      have N78 := Fr.snoc X78 N74 ge_wsa
      refine k_dup X78 hx (q := 243) rfl (hb hby at_242) rfl ?_
      refine k_iconst X78 hx (v := (2 : Int32)) rfl (q := 244) rfl (hb hby at_243) ?_
      refine k_iload X78 hx (q := 246) rfl (hb hby at_244) rfl ?_
      refine k_asI X78 hx hZ e78 2 (q := 247) rfl (hb hby at_246) V78 ⟨by decide, by decide⟩ (by decide) ?_
      intro T79 h79 X79 e79 W79 V79
      have K79 := Keep.of_wr W79
      have N79 := Fr.snoc X79 N78 ge_wsa
      have Vws : Ary Z h79 wsa .int 3 (fun t => .int ((own_of s0 s1 s2 0 0) t)) := V79.congr fun t ht => by
        have : t = 0 ∨ t = 1 ∨ t = 2 ∨ t = 3 := by omega
        rcases this with rfl | rfl | rfl | rfl <;> first | rfl | (exact absurd ht (by decide))
      refine k_astore X79 hx (L' := #[.val (.int x0), .val (.int x1), .val (.int x2), .val (.int x3), .val (.int x4), .val (.int x5), .val (.ref ca), .val (.int n), .val (.int s0), .val (.int s1), .val (.int s2), .val (.int x5), .val (.int m1), .val (.int m2), .val (.int m3), .val (.ref sa), .val (.ref na), .val (.ref wsa), .unset, .unset, .unset, .unset]) (q := 249) rfl (hb hby at_247) rfl rfl ?_
      refine k_iconst X79 hx (v := (4 : Int32)) rfl (q := 250) rfl (hb hby at_249) ?_
      refine k_newP X79 hx hZ (hw _ (List.mem_of_getElem? (i := 1) rfl)) e79 (q := 252) rfl (hb hby at_250) (by decide) (cap := 4) (by decide) (by decide) (by decide) (by decide) ?_
      intro T80 h80 wna k80 X80 e80 g80 E80 A80
      have K80 := Keep.of_ext E80
      have V80 : Ary Z h80 wna .int 4 (fun _ => .int (0 : Int32)) := Ary.new A80 (by decide) rfl
      refine k_dup X80 hx (q := 253) rfl (hb hby at_252) rfl ?_
      refine k_iconst X80 hx (v := (0 : Int32)) rfl (q := 254) rfl (hb hby at_253) ?_
      refine k_iload X80 hx (q := 256) rfl (hb hby at_254) rfl ?_
      have Sz85 : n0 ≤ h73.size := Nat.le_trans Sz75 K73.1
      have Sz84 : n0 ≤ h74.size := Nat.le_trans Sz85 K74.1
      have Sz83 : n0 ≤ h78.size := Nat.le_trans Sz84 K78.1
      have Sz82 : n0 ≤ h79.size := Nat.le_trans Sz83 K79.1
      have ge_wna : n0 ≤ wna := Nat.le_trans Sz82 (Nat.le_of_eq g80.symm)
      refine k_asI X80 hx hZ e80 0 (q := 257) rfl (hb hby at_256) V80 ⟨by decide, by decide⟩ (by decide) ?_
      intro T81 h81 X81 e81 W81 V81
      have K81 := Keep.of_wr W81
      have N81 := Fr.snoc X81 N79 ge_wna
      refine k_dup X81 hx (q := 258) rfl (hb hby at_257) rfl ?_
      refine k_iconst X81 hx (v := (1 : Int32)) rfl (q := 259) rfl (hb hby at_258) ?_
      refine k_iload X81 hx (q := 261) rfl (hb hby at_259) rfl ?_
      refine k_asI X81 hx hZ e81 1 (q := 262) rfl (hb hby at_261) V81 ⟨by decide, by decide⟩ (by decide) ?_
      intro T86 h86 X86 e86 W86 V86
      have K86 := Keep.of_wr W86
      have N86 := Fr.snoc X86 N81 ge_wna
      refine k_dup X86 hx (q := 263) rfl (hb hby at_262) rfl ?_
      refine k_iconst X86 hx (v := (2 : Int32)) rfl (q := 264) rfl (hb hby at_263) ?_
      refine k_iload X86 hx (q := 266) rfl (hb hby at_264) rfl ?_
      refine k_asI X86 hx hZ e86 2 (q := 267) rfl (hb hby at_266) V86 ⟨by decide, by decide⟩ (by decide) ?_
      intro T87 h87 X87 e87 W87 V87
      have K87 := Keep.of_wr W87
      have N87 := Fr.snoc X87 N86 ge_wna
      refine k_dup X87 hx (q := 268) rfl (hb hby at_267) rfl ?_
      refine k_iconst X87 hx (v := (3 : Int32)) rfl (q := 269) rfl (hb hby at_268) ?_
      refine k_iload X87 hx (q := 271) rfl (hb hby at_269) rfl ?_
      refine k_asI X87 hx hZ e87 3 (q := 272) rfl (hb hby at_271) V87 ⟨by decide, by decide⟩ (by decide) ?_
      intro T88 h88 X88 e88 W88 V88
      have K88 := Keep.of_wr W88
      have N88 := Fr.snoc X88 N87 ge_wna
      have Vwn : Ary Z h88 wna .int 4 (fun t => .int ((own_of x5 m1 m2 m3 0) t)) := V88.congr fun t ht => by
        have : t = 0 ∨ t = 1 ∨ t = 2 ∨ t = 3 := by omega
        rcases this with rfl | rfl | rfl | rfl <;> first | rfl | (exact absurd ht (by decide))
      refine k_astore X88 hx (L' := #[.val (.int x0), .val (.int x1), .val (.int x2), .val (.int x3), .val (.int x4), .val (.int x5), .val (.ref ca), .val (.int n), .val (.int s0), .val (.int s1), .val (.int s2), .val (.int x5), .val (.int m1), .val (.int m2), .val (.int m3), .val (.ref sa), .val (.ref na), .val (.ref wsa), .val (.ref wna), .unset, .unset, .unset]) (q := 274) rfl (hb hby at_272) rfl rfl ?_
      refine k_aload X88 hx (q := 276) rfl (hb hby at_274) rfl rfl ?_
      refine k_aload X88 hx (q := 278) rfl (hb hby at_276) rfl rfl ?_
      refine k_aload X88 hx (q := 280) rfl (hb hby at_278) rfl rfl ?_
      have Sz93 : n0 ≤ h80.size := Nat.le_trans Sz82 K80.1
      have Sz92 : n0 ≤ h81.size := Nat.le_trans Sz93 K81.1
      have Sz91 : n0 ≤ h86.size := Nat.le_trans Sz92 K86.1
      have Sz90 : n0 ≤ h87.size := Nat.le_trans Sz91 K87.1
      have Sz89 : n0 ≤ h88.size := Nat.le_trans Sz90 K88.1
      have ne_sa_na : sa ≠ na := Nat.ne_of_lt (Nat.lt_of_lt_of_le (Vs).lt (Nat.le_of_eq g68.symm))
      have G94 := (((Vs.keep K68 nin0).keep K69 (ninS ne_sa_na nin0)).keep K72 (ninS ne_sa_na nin0))
      have ne_sa_wsa : sa ≠ wsa := Nat.ne_of_lt (Nat.lt_of_lt_of_le (G94).lt (Nat.le_of_eq g73.symm))
      have G95 := ((((G94.keep K73 nin0).keep K74 (ninS ne_sa_wsa nin0)).keep K78 (ninS ne_sa_wsa nin0)).keep K79 (ninS ne_sa_wsa nin0))
      have ne_sa_wna : sa ≠ wna := Nat.ne_of_lt (Nat.lt_of_lt_of_le (G95).lt (Nat.le_of_eq g80.symm))
      have G96 := ((((((((((((Vs.keep K68 nin0).keep K69 (ninS ne_sa_na nin0)).keep K72 (ninS ne_sa_na nin0)).keep K73 nin0).keep K74 (ninS ne_sa_wsa nin0)).keep K78 (ninS ne_sa_wsa nin0)).keep K79 (ninS ne_sa_wsa nin0)).keep K80 nin0).keep K81 (ninS ne_sa_wna nin0)).keep K86 (ninS ne_sa_wna nin0)).keep K87 (ninS ne_sa_wna nin0)).keep K88 (ninS ne_sa_wna nin0))
      have ne_ca_sa : ca ≠ sa := Nat.ne_of_lt (Nat.lt_of_lt_of_le (Vc).lt (Nat.le_of_eq g61.symm))
      have G97 := ((Vc.keep K61 nin0).keep K62 (ninS ne_ca_sa nin0))
      have ne_ca_na : ca ≠ na := Nat.ne_of_lt (Nat.lt_of_lt_of_le (G97).lt (Nat.le_of_eq g68.symm))
      have G98 := (((G97.keep K68 nin0).keep K69 (ninS ne_ca_na nin0)).keep K72 (ninS ne_ca_na nin0))
      have ne_ca_wsa : ca ≠ wsa := Nat.ne_of_lt (Nat.lt_of_lt_of_le (G98).lt (Nat.le_of_eq g73.symm))
      have G99 := ((((G98.keep K73 nin0).keep K74 (ninS ne_ca_wsa nin0)).keep K78 (ninS ne_ca_wsa nin0)).keep K79 (ninS ne_ca_wsa nin0))
      have ne_ca_wna : ca ≠ wna := Nat.ne_of_lt (Nat.lt_of_lt_of_le (G99).lt (Nat.le_of_eq g80.symm))
      have G100 := ((((((((((((((Vc.keep K61 nin0).keep K62 (ninS ne_ca_sa nin0)).keep K68 nin0).keep K69 (ninS ne_ca_na nin0)).keep K72 (ninS ne_ca_na nin0)).keep K73 nin0).keep K74 (ninS ne_ca_wsa nin0)).keep K78 (ninS ne_ca_wsa nin0)).keep K79 (ninS ne_ca_wsa nin0)).keep K80 nin0).keep K81 (ninS ne_ca_wna nin0)).keep K86 (ninS ne_ca_wna nin0)).keep K87 (ninS ne_ca_wna nin0)).keep K88 (ninS ne_ca_wna nin0))
      refine k_callS X88 hx hZ (y := (⟨"com/example/footwise/footwise/search/Route", "of", "([I[I[D)Lcom/example/footwise/footwise/search/Route;"⟩ : MethodName)) hown (hw _ (List.mem_of_getElem? (i := 2) rfl)) (hw _ (List.mem_of_getElem? (i := 3) rfl)) (hw _ (List.mem_of_getElem? (i := 4) rfl)) (hw _ (List.mem_of_getElem? (i := 5) rfl)) (by decide) 0 e88 (rm1 l Z a0 hw na sa ca h88 n0 Sz89 1 (by decide) (own_of s0 s1 s2 0 0) si (fun t ht => hsc t (by omega)) (own_of x0 x1 x2 x3 0) G96 G100) (by decide) (by decide) (by decide) (by decide) (by rw [hml]; rfl) (as := [(.ref na), (.ref sa), (.ref ca)]) (rest := []) pd_2 rfl (by first | exact Nat.le_refl _ | simp [Value.category]) (q := 283) rfl (hb hby at_280) ?_
      rintro _ T101 L101 X101 ⟨ra, rfl, N101q, K101, le101, E101, Fn101, Fs101, Fc101⟩
      have N101 := Fr.app N88 N101q
      show End _ _ _ _ _ _ _ (T101.setTop (mkF m 283 #[.val (.int x0), .val (.int x1), .val (.int x2), .val (.int x3), .val (.int x4), .val (.int x5), .val (.ref ca), .val (.int n), .val (.int s0), .val (.int s1), .val (.int s2), .val (.int x5), .val (.int m1), .val (.int m2), .val (.int m3), .val (.ref sa), .val (.ref na), .val (.ref wsa), .val (.ref wna), .unset, .unset, .unset] [(.ref ra)]))
      refine k_astore X101 hx (L' := #[.val (.int x0), .val (.int x1), .val (.int x2), .val (.int x3), .val (.int x4), .val (.int x5), .val (.ref ca), .val (.int n), .val (.int s0), .val (.int s1), .val (.int s2), .val (.int x5), .val (.int m1), .val (.int m2), .val (.int m3), .val (.ref sa), .val (.ref na), .val (.ref wsa), .val (.ref wna), .val (.ref ra), .unset, .unset]) (q := 285) rfl (hb hby at_283) rfl rfl ?_
      refine k_dconst0 X101 hx (q := 286) rfl (hb hby at_285) (v := (0 : UInt64)) (by decide) ?_
      refine k_dstore X101 hx (L' := #[.val (.int x0), .val (.int x1), .val (.int x2), .val (.int x3), .val (.int x4), .val (.int x5), .val (.ref ca), .val (.int n), .val (.int s0), .val (.int s1), .val (.int s2), .val (.int x5), .val (.int m1), .val (.int m2), .val (.int m3), .val (.ref sa), .val (.ref na), .val (.ref wsa), .val (.ref wna), .val (.ref ra), .val (.double (0 : UInt64)), .second]) (q := 288) rfl (hb hby at_286) rfl ?_
      rw [show (0 : UInt64) = FP.l2d (own_sum (own_of x0 x1 x2 x3 0) si 0) from Jvm.RoadKit.l2d_zero.symm]
      show End _ _ _ _ _ _ _ (T101.setTop (mkF m 288 #[.val (.int x0), .val (.int x1), .val (.int x2), .val (.int x3), .val (.int x4), .val (.int x5), .val (.ref ca), .val (.int n), .val (.int s0), .val (.int s1), .val (.int s2), .val (.int x5), .val (.int m1), .val (.int m2), .val (.int m3), .val (.ref sa), .val (.ref na), .val (.ref wsa), .val (.ref wna), .val (.ref ra), .val (.double (FP.l2d (own_sum (own_of x0 x1 x2 x3 0) si 0))), .second] []))
      refine k_iload X101 hx (q := 290) rfl (hb hby at_288) rfl ?_
      refine k_iconst X101 hx (v := (1 : Int32)) rfl (q := 291) rfl (hb hby at_290) ?_
      refine k_icmp_lt X101 hx (q1 := 308) (q := 294) (by decide) (by decide) rfl (hb hby at_291) (fun hc => absurd hc (fun q => by have := (own_lt (k := k) (n := 1) hk ⟨by decide, by decide⟩).mp q; omega)) (fun _ => ?_)
      refine k_dload X101 hx (q := 296) rfl (hb hby at_294) rfl ?_
      refine k_iloadN X101 hx (q := 297) rfl (hb hby at_296) rfl ?_
      refine k_iloadN X101 hx (q := 298) rfl (hb hby at_297) rfl ?_
      refine k_iloadN X101 hx (q := 299) rfl (hb hby at_298) rfl ?_
      refine k_iloadN X101 hx (q := 300) rfl (hb hby at_299) rfl ?_
      refine k_iload X101 hx (q := 302) rfl (hb hby at_300) rfl ?_
      refine k_callS X101 hx hZ (y := (⟨"com/example/footwise/footwise/search/RouteOfPinLaw", "pick", "(IIIII)D"⟩ : MethodName)) hown (hw _ (List.mem_of_getElem? (i := 44) rfl)) (hw _ (List.mem_of_getElem? (i := 45) rfl)) (hw _ (List.mem_of_getElem? (i := 37) rfl)) (hw _ (List.mem_of_getElem? (i := 46) rfl)) (by decide) 2 rfl (rm9 l Z a0 hw x0 x1 x2 x3 s0 T101.heap n0) (by decide) (by decide) (by decide) (by decide) (by rw [hml]; rfl) (as := [(.int x0), (.int x1), (.int x2), (.int x3), (.int s0)]) (rest := [(.double (FP.l2d (own_sum (own_of x0 x1 x2 x3 0) si 0)))]) pd_6 rfl (by first | exact Nat.le_refl _ | simp [Value.category]) (q := 305) rfl (hb hby at_302) ?_
      rintro _ T103 L103 X103 ⟨rfl, N103q, e103⟩
      have N103 := Fr.app N101 N103q
      show End _ _ _ _ _ _ _ (T103.setTop (mkF m 305 #[.val (.int x0), .val (.int x1), .val (.int x2), .val (.int x3), .val (.int x4), .val (.int x5), .val (.ref ca), .val (.int n), .val (.int s0), .val (.int s1), .val (.int s2), .val (.int x5), .val (.int m1), .val (.int m2), .val (.int m3), .val (.ref sa), .val (.ref na), .val (.ref wsa), .val (.ref wna), .val (.ref ra), .val (.double (FP.l2d (own_sum (own_of x0 x1 x2 x3 0) si 0))), .second] [(.double (f9 x0 x1 x2 x3 s0)), (.double (FP.l2d (own_sum (own_of x0 x1 x2 x3 0) si 0)))]))
      have hadd0 : FP.dadd (FP.l2d (own_sum (own_of x0 x1 x2 x3 0) si 0)) (f9 x0 x1 x2 x3 s0) = FP.l2d (own_sum (own_of x0 x1 x2 x3 0) si 1) := by
        rw [own_pick x0 x1 x2 x3 hi0 hi04]
        have := own_add (own_of x0 x1 x2 x3 0) si (i := 0) (by decide)
        rw [hsi] at this ⊢; exact this
      refine k_dadd X103 hx (q := 306) rfl (hb hby at_305) (v := (FP.l2d (own_sum (own_of x0 x1 x2 x3 0) si 1))) (Jvm.RoadKit.nn_w hadd0) hadd0 ?_
      refine k_dstore X103 hx (L' := #[.val (.int x0), .val (.int x1), .val (.int x2), .val (.int x3), .val (.int x4), .val (.int x5), .val (.ref ca), .val (.int n), .val (.int s0), .val (.int s1), .val (.int s2), .val (.int x5), .val (.int m1), .val (.int m2), .val (.int m3), .val (.ref sa), .val (.ref na), .val (.ref wsa), .val (.ref wna), .val (.ref ra), .val (.double (FP.l2d (own_sum (own_of x0 x1 x2 x3 0) si 1))), .second]) (q := 308) rfl (hb hby at_306) rfl ?_
      refine k_iload X103 hx (q := 310) rfl (hb hby at_308) rfl ?_
      refine k_iconst X103 hx (v := (2 : Int32)) rfl (q := 311) rfl (hb hby at_310) ?_
      refine k_icmp_lt X103 hx (q1 := 328) (q := 314) (by decide) (by decide) rfl (hb hby at_311) (fun _ => ?_) (fun hc => absurd ((own_lt (k := k) (n := 2) hk ⟨by decide, by decide⟩).mpr (by omega)) hc)
      refine k_iload X103 hx (q := 330) rfl (hb hby at_328) rfl ?_
      refine k_iconst X103 hx (v := (3 : Int32)) rfl (q := 331) rfl (hb hby at_330) ?_
      refine k_icmp_lt X103 hx (q1 := 348) (q := 334) (by decide) (by decide) rfl (hb hby at_331) (fun _ => ?_) (fun hc => absurd ((own_lt (k := k) (n := 3) hk ⟨by decide, by decide⟩).mpr (by omega)) hc)
      refine k_aload X103 hx (q := 350) rfl (hb hby at_348) rfl rfl ?_
      refine k_callV X103 hx hZ (y := (⟨"com/example/footwise/footwise/search/Route", "cost", "()D"⟩ : MethodName)) (z := (⟨"com/example/footwise/footwise/search/Route", "cost", "()D"⟩ : MethodName)) hown (hw _ (List.mem_of_getElem? (i := 25) rfl)) (hw _ (List.mem_of_getElem? (i := 26) rfl)) (notFace_of_selects (args := #[]) (mvT hZ (hw _ (List.mem_of_getElem? (i := 28) rfl)))) (hw _ (List.mem_of_getElem? (i := 28) rfl)) (hw _ (List.mem_of_getElem? (i := 27) rfl)) (hw _ (List.mem_of_getElem? (i := 29) rfl)) (hw _ (List.mem_of_getElem? (i := 4) rfl)) (by decide) E101 0 e103 (rm5 l Z a0 hw ra T101.heap n0 _ Fc101) (by decide) (by decide) (by decide) (by decide) (by rw [hml]; rfl) (a := ra) (as := []) (rest := []) pd_3 rfl (by first | exact Nat.le_refl _ | simp [Value.category]) (q := 353) rfl (hb hby at_350) ?_
      rintro _ T106 L106 X106 ⟨rfl, N106q, e106⟩
      have N106 := Fr.app N103 N106q
      show End _ _ _ _ _ _ _ (T106.setTop (mkF m 353 #[.val (.int x0), .val (.int x1), .val (.int x2), .val (.int x3), .val (.int x4), .val (.int x5), .val (.ref ca), .val (.int n), .val (.int s0), .val (.int s1), .val (.int s2), .val (.int x5), .val (.int m1), .val (.int m2), .val (.int m3), .val (.ref sa), .val (.ref na), .val (.ref wsa), .val (.ref wna), .val (.ref ra), .val (.double (FP.l2d (own_sum (own_of x0 x1 x2 x3 0) si 1))), .second] [(.double (FP.l2d (own_sum (own_of x0 x1 x2 x3 0) si 1)))]))
      refine k_dload X106 hx (q := 355) rfl (hb hby at_353) rfl ?_
      refine k_dcmp X106 hx (q := 356) rfl (hb hby at_355) (v := 0) (Jvm.RoadKit.dcmpV_self (Fl.l2d_fin _).noNaN _) ?_
      refine k_if_ne X106 hx (q1 := 395) (q := 359) (by decide) (by decide) rfl (hb hby at_356) (fun hc => absurd rfl hc) (fun _ => ?_)
      have hkk : Ix n 1 := by
        have : k = 1 := by omega
        rwa [this] at hk
      have hnn : (1 : Nat).toInt32 = n := Int32.toInt_inj.mp (by rw [hkk.int]; decide)
      refine k_aload X106 hx (q := 361) rfl (hb hby at_359) rfl rfl ?_
      refine k_callV X106 hx hZ (y := (⟨"com/example/footwise/footwise/search/Route", "sections", "()[I"⟩ : MethodName)) (z := (⟨"com/example/footwise/footwise/search/Route", "sections", "()[I"⟩ : MethodName)) hown (hw _ (List.mem_of_getElem? (i := 30) rfl)) (hw _ (List.mem_of_getElem? (i := 31) rfl)) (notFace_of_selects (args := #[]) (mvT hZ (hw _ (List.mem_of_getElem? (i := 33) rfl)))) (hw _ (List.mem_of_getElem? (i := 33) rfl)) (hw _ (List.mem_of_getElem? (i := 32) rfl)) (hw _ (List.mem_of_getElem? (i := 34) rfl)) (hw _ (List.mem_of_getElem? (i := 4) rfl)) (by decide) E101 0 e106 (rm6 l Z a0 hw ra T101.heap n0 sa Fs101) (by decide) (by decide) (by decide) (by decide) (by rw [hml]; rfl) (a := ra) (as := []) (rest := []) pd_4 rfl (by first | exact Nat.le_refl _ | simp [Value.category]) (q := 364) rfl (hb hby at_361) ?_
      rintro _ T108 L108 X108 ⟨rfl, N108q, e108⟩
      have N108 := Fr.app N106 N108q
      show End _ _ _ _ _ _ _ (T108.setTop (mkF m 364 #[.val (.int x0), .val (.int x1), .val (.int x2), .val (.int x3), .val (.int x4), .val (.int x5), .val (.ref ca), .val (.int n), .val (.int s0), .val (.int s1), .val (.int s2), .val (.int x5), .val (.int m1), .val (.int m2), .val (.int m3), .val (.ref sa), .val (.ref na), .val (.ref wsa), .val (.ref wna), .val (.ref ra), .val (.double (FP.l2d (own_sum (own_of x0 x1 x2 x3 0) si 1))), .second] [(.ref sa)]))
      refine k_aload X108 hx (q := 366) rfl (hb hby at_364) rfl rfl ?_
      refine k_iload X108 hx (q := 368) rfl (hb hby at_366) rfl ?_
      have G109 := (G96.keep K101 nin0)
      have ne_wsa_wna : wsa ≠ wna := Nat.ne_of_lt (Nat.lt_of_lt_of_le (Vws).lt (Nat.le_of_eq g80.symm))
      have G110 := ((((((Vws.keep K80 nin0).keep K81 (ninS ne_wsa_wna nin0)).keep K86 (ninS ne_wsa_wna nin0)).keep K87 (ninS ne_wsa_wna nin0)).keep K88 (ninS ne_wsa_wna nin0)).keep K101 nin0)
      refine k_callS X108 hx hZ (y := (⟨"com/example/footwise/footwise/search/RouteOfPinLaw", "same", "([I[II)Z"⟩ : MethodName)) hown (hw _ (List.mem_of_getElem? (i := 35) rfl)) (hw _ (List.mem_of_getElem? (i := 36) rfl)) (hw _ (List.mem_of_getElem? (i := 37) rfl)) (hw _ (List.mem_of_getElem? (i := 38) rfl)) (by decide) 0 e108 (rm7 l Z a0 hw sa wsa n T101.heap n0 1 3 hkk hnn (by decide) (own_of s0 s1 s2 0 0) (own_of s0 s1 s2 0 0) (fun _ _ => rfl) G109 G110) (by decide) (by decide) (by decide) (by decide) (by rw [hml]; rfl) (as := [(.ref sa), (.ref wsa), (.int n)]) (rest := []) pd_5 rfl (by first | exact Nat.le_refl _ | simp [Value.category]) (q := 371) rfl (hb hby at_368) ?_
      rintro _ T111 L111 X111 ⟨rfl, N111q, e111⟩
      have N111 := Fr.app N108 N111q
      show End _ _ _ _ _ _ _ (T111.setTop (mkF m 371 #[.val (.int x0), .val (.int x1), .val (.int x2), .val (.int x3), .val (.int x4), .val (.int x5), .val (.ref ca), .val (.int n), .val (.int s0), .val (.int s1), .val (.int s2), .val (.int x5), .val (.int m1), .val (.int m2), .val (.int m3), .val (.ref sa), .val (.ref na), .val (.ref wsa), .val (.ref wna), .val (.ref ra), .val (.double (FP.l2d (own_sum (own_of x0 x1 x2 x3 0) si 1))), .second] [(.int (1 : Int32))]))
      refine k_if_eq X111 hx (q1 := 395) (q := 374) (by decide) (by decide) rfl (hb hby at_371) (fun hc => absurd hc (by decide)) (fun _ => ?_)
      refine k_aload X111 hx (q := 376) rfl (hb hby at_374) rfl rfl ?_
      refine k_callV X111 hx hZ (y := (⟨"com/example/footwise/footwise/search/Route", "nodes", "()[I"⟩ : MethodName)) (z := (⟨"com/example/footwise/footwise/search/Route", "nodes", "()[I"⟩ : MethodName)) hown (hw _ (List.mem_of_getElem? (i := 39) rfl)) (hw _ (List.mem_of_getElem? (i := 40) rfl)) (notFace_of_selects (args := #[]) (mvT hZ (hw _ (List.mem_of_getElem? (i := 42) rfl)))) (hw _ (List.mem_of_getElem? (i := 42) rfl)) (hw _ (List.mem_of_getElem? (i := 41) rfl)) (hw _ (List.mem_of_getElem? (i := 43) rfl)) (hw _ (List.mem_of_getElem? (i := 4) rfl)) (by decide) E101 0 e111 (rm8 l Z a0 hw ra T101.heap n0 na Fn101) (by decide) (by decide) (by decide) (by decide) (by rw [hml]; rfl) (a := ra) (as := []) (rest := []) pd_4 rfl (by first | exact Nat.le_refl _ | simp [Value.category]) (q := 379) rfl (hb hby at_376) ?_
      rintro _ T113 L113 X113 ⟨rfl, N113q, e113⟩
      have N113 := Fr.app N111 N113q
      show End _ _ _ _ _ _ _ (T113.setTop (mkF m 379 #[.val (.int x0), .val (.int x1), .val (.int x2), .val (.int x3), .val (.int x4), .val (.int x5), .val (.ref ca), .val (.int n), .val (.int s0), .val (.int s1), .val (.int s2), .val (.int x5), .val (.int m1), .val (.int m2), .val (.int m3), .val (.ref sa), .val (.ref na), .val (.ref wsa), .val (.ref wna), .val (.ref ra), .val (.double (FP.l2d (own_sum (own_of x0 x1 x2 x3 0) si 1))), .second] [(.ref na)]))
      refine k_aload X113 hx (q := 381) rfl (hb hby at_379) rfl rfl ?_
      refine k_iload X113 hx (q := 383) rfl (hb hby at_381) rfl ?_
      refine k_iconst X113 hx (v := (1 : Int32)) rfl (q := 384) rfl (hb hby at_383) ?_
      refine k_iadd X113 hx (q := 385) rfl (hb hby at_384) ?_
      have ne_na_wsa : na ≠ wsa := Nat.ne_of_lt (Nat.lt_of_lt_of_le (Vn).lt (Nat.le_of_eq g73.symm))
      have G114 := ((((Vn.keep K73 nin0).keep K74 (ninS ne_na_wsa nin0)).keep K78 (ninS ne_na_wsa nin0)).keep K79 (ninS ne_na_wsa nin0))
      have ne_na_wna : na ≠ wna := Nat.ne_of_lt (Nat.lt_of_lt_of_le (G114).lt (Nat.le_of_eq g80.symm))
      have G115 := ((((((((((Vn.keep K73 nin0).keep K74 (ninS ne_na_wsa nin0)).keep K78 (ninS ne_na_wsa nin0)).keep K79 (ninS ne_na_wsa nin0)).keep K80 nin0).keep K81 (ninS ne_na_wna nin0)).keep K86 (ninS ne_na_wna nin0)).keep K87 (ninS ne_na_wna nin0)).keep K88 (ninS ne_na_wna nin0)).keep K101 nin0)
      have G116 := (Vwn.keep K101 nin0)
      have hk1 := own_up hkk (by decide)
      have hnn1 : (2 : Nat).toInt32 = n + (1 : Int32) := Int32.toInt_inj.mp (by rw [hk1.int]; decide)
      refine k_callS X113 hx hZ (y := (⟨"com/example/footwise/footwise/search/RouteOfPinLaw", "same", "([I[II)Z"⟩ : MethodName)) hown (hw _ (List.mem_of_getElem? (i := 35) rfl)) (hw _ (List.mem_of_getElem? (i := 36) rfl)) (hw _ (List.mem_of_getElem? (i := 37) rfl)) (hw _ (List.mem_of_getElem? (i := 38) rfl)) (by decide) 0 e113 (rm7 l Z a0 hw na wna (n + (1 : Int32)) T101.heap n0 2 4 hk1 hnn1 (by decide) (own_of x5 m1 m2 m3 0) (own_of x5 m1 m2 m3 0) (fun _ _ => rfl) G115 G116) (by decide) (by decide) (by decide) (by decide) (by rw [hml]; rfl) (as := [(.ref na), (.ref wna), (.int (n + (1 : Int32)))]) (rest := []) pd_5 rfl (by first | exact Nat.le_refl _ | simp [Value.category]) (q := 388) rfl (hb hby at_385) ?_
      rintro _ T117 L117 X117 ⟨rfl, N117q, e117⟩
      have N117 := Fr.app N113 N117q
      show End _ _ _ _ _ _ _ (T117.setTop (mkF m 388 #[.val (.int x0), .val (.int x1), .val (.int x2), .val (.int x3), .val (.int x4), .val (.int x5), .val (.ref ca), .val (.int n), .val (.int s0), .val (.int s1), .val (.int s2), .val (.int x5), .val (.int m1), .val (.int m2), .val (.int m3), .val (.ref sa), .val (.ref na), .val (.ref wsa), .val (.ref wna), .val (.ref ra), .val (.double (FP.l2d (own_sum (own_of x0 x1 x2 x3 0) si 1))), .second] [(.int (1 : Int32))]))
      refine k_if_eq X117 hx (q1 := 395) (q := 391) (by decide) (by decide) rfl (hb hby at_388) (fun hc => absurd hc (by decide)) (fun _ => ?_)
      refine k_iconst X117 hx (v := (1 : Int32)) rfl (q := 392) rfl (hb hby at_391) ?_
      refine k_goto X117 hx (q := 396) (by decide) (by decide) (hb hby at_392) ?_
      exact k_retN X117 hx (t := .boolean) hlk (by decide) (by decide) hret (by simp) (hb hby at_396) ⟨rfl, N117⟩
  · have hk0 : k = 0 := (own_eqi hk (m := (0 : Int32)) (n := 0) ⟨by decide, by decide⟩).mp hc6
    refine k_iconst X5 hx (v := (0 : Int32)) rfl (q := 89) rfl (hb hby at_88) ?_
    refine k_newP X5 hx hZ (hw _ (List.mem_of_getElem? (i := 1) rfl)) e5 (q := 91) rfl (hb hby at_89) (by decide) (cap := 0) (by decide) (by decide) (by decide) (by decide) ?_
    intro T7 h7 sa k7 X7 e7 g7 E7 A7
    have K7 := Keep.of_ext E7
    have V7 : Ary Z h7 sa .int 0 (fun _ => .int (0 : Int32)) := Ary.new A7 (by decide) rfl
    have Vs : Ary Z h7 sa .int 0 (fun t => .int ((own_of s0 s1 s2 0 0) t)) := V7.congr fun t ht => by
      have : t = 0 ∨ t = 1 ∨ t = 2 ∨ t = 3 := by omega
      rcases this with rfl | rfl | rfl | rfl <;> first | rfl | (exact absurd ht (by decide))
    refine k_astore X7 hx (L' := #[.val (.int x0), .val (.int x1), .val (.int x2), .val (.int x3), .val (.int x4), .val (.int x5), .val (.ref ca), .val (.int n), .val (.int s0), .val (.int s1), .val (.int s2), .val (.int x5), .val (.int m1), .val (.int m2), .val (.int m3), .val (.ref sa), .unset, .unset, .unset, .unset, .unset, .unset]) (q := 93) rfl (hb hby at_91) rfl rfl ?_
    refine k_iconst X7 hx (v := (1 : Int32)) rfl (q := 94) rfl (hb hby at_93) ?_
    refine k_newP X7 hx hZ (hw _ (List.mem_of_getElem? (i := 1) rfl)) e7 (q := 96) rfl (hb hby at_94) (by decide) (cap := 1) (by decide) (by decide) (by decide) (by decide) ?_
    intro T8 h8 na k8 X8 e8 g8 E8 A8
    have K8 := Keep.of_ext E8
    have V8 : Ary Z h8 na .int 1 (fun _ => .int (0 : Int32)) := Ary.new A8 (by decide) rfl
    refine k_dup X8 hx (q := 97) rfl (hb hby at_96) rfl ?_
    refine k_iconst X8 hx (v := (0 : Int32)) rfl (q := 98) rfl (hb hby at_97) ?_
    refine k_iload X8 hx (q := 100) rfl (hb hby at_98) rfl ?_
    have Sz15 : n0 ≤ h1.size := Nat.le_trans Z0 K1.1
    have Sz14 : n0 ≤ h2.size := Nat.le_trans Sz15 K2.1
    have Sz13 : n0 ≤ h3.size := Nat.le_trans Sz14 K3.1
    have Sz12 : n0 ≤ h4.size := Nat.le_trans Sz13 K4.1
    have Sz11 : n0 ≤ h5.size := Nat.le_trans Sz12 K5.1
    have Sz10 : n0 ≤ h7.size := Nat.le_trans Sz11 K7.1
    have ge_na : n0 ≤ na := Nat.le_trans Sz10 (Nat.le_of_eq g8.symm)
    refine k_asI X8 hx hZ e8 0 (q := 101) rfl (hb hby at_100) V8 ⟨by decide, by decide⟩ (by decide) ?_
    intro T9 h9 X9 e9 W9 V9
    have K9 := Keep.of_wr W9
    have N9 := Fr.snoc X9 N5 ge_na
    have Vn : Ary Z h9 na .int 1 (fun t => .int ((own_of x5 m1 m2 m3 0) t)) := V9.congr fun t ht => by
      have : t = 0 ∨ t = 1 ∨ t = 2 ∨ t = 3 := by omega
      rcases this with rfl | rfl | rfl | rfl <;> first | rfl | (exact absurd ht (by decide))
    refine k_astore X9 hx (L' := #[.val (.int x0), .val (.int x1), .val (.int x2), .val (.int x3), .val (.int x4), .val (.int x5), .val (.ref ca), .val (.int n), .val (.int s0), .val (.int s1), .val (.int s2), .val (.int x5), .val (.int m1), .val (.int m2), .val (.int m3), .val (.ref sa), .val (.ref na), .unset, .unset, .unset, .unset, .unset]) (q := 103) rfl (hb hby at_101) rfl rfl ?_
    refine k_goto X9 hx (q := 229) (by decide) (by decide) (hb hby at_103) ?_
    refine k_iconst X9 hx (v := (3 : Int32)) rfl (q := 230) rfl (hb hby at_229) ?_
    refine k_newP X9 hx hZ (hw _ (List.mem_of_getElem? (i := 1) rfl)) e9 (q := 232) rfl (hb hby at_230) (by decide) (cap := 3) (by decide) (by decide) (by decide) (by decide) ?_
    intro T16 h16 wsa k16 X16 e16 g16 E16 A16
    have K16 := Keep.of_ext E16
    have V16 : Ary Z h16 wsa .int 3 (fun _ => .int (0 : Int32)) := Ary.new A16 (by decide) rfl
    refine k_dup X16 hx (q := 233) rfl (hb hby at_232) rfl ?_
    refine k_iconst X16 hx (v := (0 : Int32)) rfl (q := 234) rfl (hb hby at_233) ?_
    refine k_iload X16 hx (q := 236) rfl (hb hby at_234) rfl ?_
    have Sz19 : n0 ≤ h8.size := Nat.le_trans Sz10 K8.1
    have Sz18 : n0 ≤ h9.size := Nat.le_trans Sz19 K9.1
    have ge_wsa : n0 ≤ wsa := Nat.le_trans Sz18 (Nat.le_of_eq g16.symm)
    refine k_asI X16 hx hZ e16 0 (q := 237) rfl (hb hby at_236) V16 ⟨by decide, by decide⟩ (by decide) ?_
    intro T17 h17 X17 e17 W17 V17
    have K17 := Keep.of_wr W17
    have N17 := Fr.snoc X17 N9 ge_wsa
    refine k_dup X17 hx (q := 238) rfl (hb hby at_237) rfl ?_
    refine k_iconst X17 hx (v := (1 : Int32)) rfl (q := 239) rfl (hb hby at_238) ?_
    refine k_iload X17 hx (q := 241) rfl (hb hby at_239) rfl ?_
    refine k_asI X17 hx hZ e17 1 (q := 242) rfl (hb hby at_241) V17 ⟨by decide, by decide⟩ (by decide) ?_
    intro T20 h20 X20 e20 W20 V20
    have K20 := Keep.of_wr W20
    have N20 := Fr.snoc X20 N17 ge_wsa
    refine k_dup X20 hx (q := 243) rfl (hb hby at_242) rfl ?_
    refine k_iconst X20 hx (v := (2 : Int32)) rfl (q := 244) rfl (hb hby at_243) ?_
    refine k_iload X20 hx (q := 246) rfl (hb hby at_244) rfl ?_
    refine k_asI X20 hx hZ e20 2 (q := 247) rfl (hb hby at_246) V20 ⟨by decide, by decide⟩ (by decide) ?_
    intro T21 h21 X21 e21 W21 V21
    have K21 := Keep.of_wr W21
    have N21 := Fr.snoc X21 N20 ge_wsa
    have Vws : Ary Z h21 wsa .int 3 (fun t => .int ((own_of s0 s1 s2 0 0) t)) := V21.congr fun t ht => by
      have : t = 0 ∨ t = 1 ∨ t = 2 ∨ t = 3 := by omega
      rcases this with rfl | rfl | rfl | rfl <;> first | rfl | (exact absurd ht (by decide))
    refine k_astore X21 hx (L' := #[.val (.int x0), .val (.int x1), .val (.int x2), .val (.int x3), .val (.int x4), .val (.int x5), .val (.ref ca), .val (.int n), .val (.int s0), .val (.int s1), .val (.int s2), .val (.int x5), .val (.int m1), .val (.int m2), .val (.int m3), .val (.ref sa), .val (.ref na), .val (.ref wsa), .unset, .unset, .unset, .unset]) (q := 249) rfl (hb hby at_247) rfl rfl ?_
    refine k_iconst X21 hx (v := (4 : Int32)) rfl (q := 250) rfl (hb hby at_249) ?_
    refine k_newP X21 hx hZ (hw _ (List.mem_of_getElem? (i := 1) rfl)) e21 (q := 252) rfl (hb hby at_250) (by decide) (cap := 4) (by decide) (by decide) (by decide) (by decide) ?_
    intro T22 h22 wna k22 X22 e22 g22 E22 A22
    have K22 := Keep.of_ext E22
    have V22 : Ary Z h22 wna .int 4 (fun _ => .int (0 : Int32)) := Ary.new A22 (by decide) rfl
    refine k_dup X22 hx (q := 253) rfl (hb hby at_252) rfl ?_
    refine k_iconst X22 hx (v := (0 : Int32)) rfl (q := 254) rfl (hb hby at_253) ?_
    refine k_iload X22 hx (q := 256) rfl (hb hby at_254) rfl ?_
    have Sz27 : n0 ≤ h16.size := Nat.le_trans Sz18 K16.1
    have Sz26 : n0 ≤ h17.size := Nat.le_trans Sz27 K17.1
    have Sz25 : n0 ≤ h20.size := Nat.le_trans Sz26 K20.1
    have Sz24 : n0 ≤ h21.size := Nat.le_trans Sz25 K21.1
    have ge_wna : n0 ≤ wna := Nat.le_trans Sz24 (Nat.le_of_eq g22.symm)
    refine k_asI X22 hx hZ e22 0 (q := 257) rfl (hb hby at_256) V22 ⟨by decide, by decide⟩ (by decide) ?_
    intro T23 h23 X23 e23 W23 V23
    have K23 := Keep.of_wr W23
    have N23 := Fr.snoc X23 N21 ge_wna
    refine k_dup X23 hx (q := 258) rfl (hb hby at_257) rfl ?_
    refine k_iconst X23 hx (v := (1 : Int32)) rfl (q := 259) rfl (hb hby at_258) ?_
    refine k_iload X23 hx (q := 261) rfl (hb hby at_259) rfl ?_
    refine k_asI X23 hx hZ e23 1 (q := 262) rfl (hb hby at_261) V23 ⟨by decide, by decide⟩ (by decide) ?_
    intro T28 h28 X28 e28 W28 V28
    have K28 := Keep.of_wr W28
    have N28 := Fr.snoc X28 N23 ge_wna
    refine k_dup X28 hx (q := 263) rfl (hb hby at_262) rfl ?_
    refine k_iconst X28 hx (v := (2 : Int32)) rfl (q := 264) rfl (hb hby at_263) ?_
    refine k_iload X28 hx (q := 266) rfl (hb hby at_264) rfl ?_
    refine k_asI X28 hx hZ e28 2 (q := 267) rfl (hb hby at_266) V28 ⟨by decide, by decide⟩ (by decide) ?_
    intro T29 h29 X29 e29 W29 V29
    have K29 := Keep.of_wr W29
    have N29 := Fr.snoc X29 N28 ge_wna
    refine k_dup X29 hx (q := 268) rfl (hb hby at_267) rfl ?_
    refine k_iconst X29 hx (v := (3 : Int32)) rfl (q := 269) rfl (hb hby at_268) ?_
    refine k_iload X29 hx (q := 271) rfl (hb hby at_269) rfl ?_
    refine k_asI X29 hx hZ e29 3 (q := 272) rfl (hb hby at_271) V29 ⟨by decide, by decide⟩ (by decide) ?_
    intro T30 h30 X30 e30 W30 V30
    have K30 := Keep.of_wr W30
    have N30 := Fr.snoc X30 N29 ge_wna
    have Vwn : Ary Z h30 wna .int 4 (fun t => .int ((own_of x5 m1 m2 m3 0) t)) := V30.congr fun t ht => by
      have : t = 0 ∨ t = 1 ∨ t = 2 ∨ t = 3 := by omega
      rcases this with rfl | rfl | rfl | rfl <;> first | rfl | (exact absurd ht (by decide))
    refine k_astore X30 hx (L' := #[.val (.int x0), .val (.int x1), .val (.int x2), .val (.int x3), .val (.int x4), .val (.int x5), .val (.ref ca), .val (.int n), .val (.int s0), .val (.int s1), .val (.int s2), .val (.int x5), .val (.int m1), .val (.int m2), .val (.int m3), .val (.ref sa), .val (.ref na), .val (.ref wsa), .val (.ref wna), .unset, .unset, .unset]) (q := 274) rfl (hb hby at_272) rfl rfl ?_
    refine k_aload X30 hx (q := 276) rfl (hb hby at_274) rfl rfl ?_
    refine k_aload X30 hx (q := 278) rfl (hb hby at_276) rfl rfl ?_
    refine k_aload X30 hx (q := 280) rfl (hb hby at_278) rfl rfl ?_
    have Sz35 : n0 ≤ h22.size := Nat.le_trans Sz24 K22.1
    have Sz34 : n0 ≤ h23.size := Nat.le_trans Sz35 K23.1
    have Sz33 : n0 ≤ h28.size := Nat.le_trans Sz34 K28.1
    have Sz32 : n0 ≤ h29.size := Nat.le_trans Sz33 K29.1
    have Sz31 : n0 ≤ h30.size := Nat.le_trans Sz32 K30.1
    have ne_sa_na : sa ≠ na := Nat.ne_of_lt (Nat.lt_of_lt_of_le (Vs).lt (Nat.le_of_eq g8.symm))
    have G36 := ((Vs.keep K8 nin0).keep K9 (ninS ne_sa_na nin0))
    have ne_sa_wsa : sa ≠ wsa := Nat.ne_of_lt (Nat.lt_of_lt_of_le (G36).lt (Nat.le_of_eq g16.symm))
    have G37 := ((((G36.keep K16 nin0).keep K17 (ninS ne_sa_wsa nin0)).keep K20 (ninS ne_sa_wsa nin0)).keep K21 (ninS ne_sa_wsa nin0))
    have ne_sa_wna : sa ≠ wna := Nat.ne_of_lt (Nat.lt_of_lt_of_le (G37).lt (Nat.le_of_eq g22.symm))
    have G38 := (((((((((((Vs.keep K8 nin0).keep K9 (ninS ne_sa_na nin0)).keep K16 nin0).keep K17 (ninS ne_sa_wsa nin0)).keep K20 (ninS ne_sa_wsa nin0)).keep K21 (ninS ne_sa_wsa nin0)).keep K22 nin0).keep K23 (ninS ne_sa_wna nin0)).keep K28 (ninS ne_sa_wna nin0)).keep K29 (ninS ne_sa_wna nin0)).keep K30 (ninS ne_sa_wna nin0))
    have G39 := (Vc.keep K7 nin0)
    have ne_ca_na : ca ≠ na := Nat.ne_of_lt (Nat.lt_of_lt_of_le (G39).lt (Nat.le_of_eq g8.symm))
    have G40 := ((G39.keep K8 nin0).keep K9 (ninS ne_ca_na nin0))
    have ne_ca_wsa : ca ≠ wsa := Nat.ne_of_lt (Nat.lt_of_lt_of_le (G40).lt (Nat.le_of_eq g16.symm))
    have G41 := ((((G40.keep K16 nin0).keep K17 (ninS ne_ca_wsa nin0)).keep K20 (ninS ne_ca_wsa nin0)).keep K21 (ninS ne_ca_wsa nin0))
    have ne_ca_wna : ca ≠ wna := Nat.ne_of_lt (Nat.lt_of_lt_of_le (G41).lt (Nat.le_of_eq g22.symm))
    have G42 := ((((((((((((Vc.keep K7 nin0).keep K8 nin0).keep K9 (ninS ne_ca_na nin0)).keep K16 nin0).keep K17 (ninS ne_ca_wsa nin0)).keep K20 (ninS ne_ca_wsa nin0)).keep K21 (ninS ne_ca_wsa nin0)).keep K22 nin0).keep K23 (ninS ne_ca_wna nin0)).keep K28 (ninS ne_ca_wna nin0)).keep K29 (ninS ne_ca_wna nin0)).keep K30 (ninS ne_ca_wna nin0))
    refine k_callS X30 hx hZ (y := (⟨"com/example/footwise/footwise/search/Route", "of", "([I[I[D)Lcom/example/footwise/footwise/search/Route;"⟩ : MethodName)) hown (hw _ (List.mem_of_getElem? (i := 2) rfl)) (hw _ (List.mem_of_getElem? (i := 3) rfl)) (hw _ (List.mem_of_getElem? (i := 4) rfl)) (hw _ (List.mem_of_getElem? (i := 5) rfl)) (by decide) 0 e30 (rm1 l Z a0 hw na sa ca h30 n0 Sz31 0 (by decide) (own_of s0 s1 s2 0 0) si (fun t ht => hsc t (by omega)) (own_of x0 x1 x2 x3 0) G38 G42) (by decide) (by decide) (by decide) (by decide) (by rw [hml]; rfl) (as := [(.ref na), (.ref sa), (.ref ca)]) (rest := []) pd_2 rfl (by first | exact Nat.le_refl _ | simp [Value.category]) (q := 283) rfl (hb hby at_280) ?_
    rintro _ T43 L43 X43 ⟨ra, rfl, N43q, K43, le43, E43, Fn43, Fs43, Fc43⟩
    have N43 := Fr.app N30 N43q
    show End _ _ _ _ _ _ _ (T43.setTop (mkF m 283 #[.val (.int x0), .val (.int x1), .val (.int x2), .val (.int x3), .val (.int x4), .val (.int x5), .val (.ref ca), .val (.int n), .val (.int s0), .val (.int s1), .val (.int s2), .val (.int x5), .val (.int m1), .val (.int m2), .val (.int m3), .val (.ref sa), .val (.ref na), .val (.ref wsa), .val (.ref wna), .unset, .unset, .unset] [(.ref ra)]))
    refine k_astore X43 hx (L' := #[.val (.int x0), .val (.int x1), .val (.int x2), .val (.int x3), .val (.int x4), .val (.int x5), .val (.ref ca), .val (.int n), .val (.int s0), .val (.int s1), .val (.int s2), .val (.int x5), .val (.int m1), .val (.int m2), .val (.int m3), .val (.ref sa), .val (.ref na), .val (.ref wsa), .val (.ref wna), .val (.ref ra), .unset, .unset]) (q := 285) rfl (hb hby at_283) rfl rfl ?_
    refine k_dconst0 X43 hx (q := 286) rfl (hb hby at_285) (v := (0 : UInt64)) (by decide) ?_
    refine k_dstore X43 hx (L' := #[.val (.int x0), .val (.int x1), .val (.int x2), .val (.int x3), .val (.int x4), .val (.int x5), .val (.ref ca), .val (.int n), .val (.int s0), .val (.int s1), .val (.int s2), .val (.int x5), .val (.int m1), .val (.int m2), .val (.int m3), .val (.ref sa), .val (.ref na), .val (.ref wsa), .val (.ref wna), .val (.ref ra), .val (.double (0 : UInt64)), .second]) (q := 288) rfl (hb hby at_286) rfl ?_
    rw [show (0 : UInt64) = FP.l2d (own_sum (own_of x0 x1 x2 x3 0) si 0) from Jvm.RoadKit.l2d_zero.symm]
    show End _ _ _ _ _ _ _ (T43.setTop (mkF m 288 #[.val (.int x0), .val (.int x1), .val (.int x2), .val (.int x3), .val (.int x4), .val (.int x5), .val (.ref ca), .val (.int n), .val (.int s0), .val (.int s1), .val (.int s2), .val (.int x5), .val (.int m1), .val (.int m2), .val (.int m3), .val (.ref sa), .val (.ref na), .val (.ref wsa), .val (.ref wna), .val (.ref ra), .val (.double (FP.l2d (own_sum (own_of x0 x1 x2 x3 0) si 0))), .second] []))
    refine k_iload X43 hx (q := 290) rfl (hb hby at_288) rfl ?_
    refine k_iconst X43 hx (v := (1 : Int32)) rfl (q := 291) rfl (hb hby at_290) ?_
    refine k_icmp_lt X43 hx (q1 := 308) (q := 294) (by decide) (by decide) rfl (hb hby at_291) (fun _ => ?_) (fun hc => absurd ((own_lt (k := k) (n := 1) hk ⟨by decide, by decide⟩).mpr (by omega)) hc)
    refine k_iload X43 hx (q := 310) rfl (hb hby at_308) rfl ?_
    refine k_iconst X43 hx (v := (2 : Int32)) rfl (q := 311) rfl (hb hby at_310) ?_
    refine k_icmp_lt X43 hx (q1 := 328) (q := 314) (by decide) (by decide) rfl (hb hby at_311) (fun _ => ?_) (fun hc => absurd ((own_lt (k := k) (n := 2) hk ⟨by decide, by decide⟩).mpr (by omega)) hc)
    refine k_iload X43 hx (q := 330) rfl (hb hby at_328) rfl ?_
    refine k_iconst X43 hx (v := (3 : Int32)) rfl (q := 331) rfl (hb hby at_330) ?_
    refine k_icmp_lt X43 hx (q1 := 348) (q := 334) (by decide) (by decide) rfl (hb hby at_331) (fun _ => ?_) (fun hc => absurd ((own_lt (k := k) (n := 3) hk ⟨by decide, by decide⟩).mpr (by omega)) hc)
    refine k_aload X43 hx (q := 350) rfl (hb hby at_348) rfl rfl ?_
    refine k_callV X43 hx hZ (y := (⟨"com/example/footwise/footwise/search/Route", "cost", "()D"⟩ : MethodName)) (z := (⟨"com/example/footwise/footwise/search/Route", "cost", "()D"⟩ : MethodName)) hown (hw _ (List.mem_of_getElem? (i := 25) rfl)) (hw _ (List.mem_of_getElem? (i := 26) rfl)) (notFace_of_selects (args := #[]) (mvT hZ (hw _ (List.mem_of_getElem? (i := 28) rfl)))) (hw _ (List.mem_of_getElem? (i := 28) rfl)) (hw _ (List.mem_of_getElem? (i := 27) rfl)) (hw _ (List.mem_of_getElem? (i := 29) rfl)) (hw _ (List.mem_of_getElem? (i := 4) rfl)) (by decide) E43 0 rfl (rm5 l Z a0 hw ra T43.heap n0 _ Fc43) (by decide) (by decide) (by decide) (by decide) (by rw [hml]; rfl) (a := ra) (as := []) (rest := []) pd_3 rfl (by first | exact Nat.le_refl _ | simp [Value.category]) (q := 353) rfl (hb hby at_350) ?_
    rintro _ T47 L47 X47 ⟨rfl, N47q, e47⟩
    have N47 := Fr.app N43 N47q
    show End _ _ _ _ _ _ _ (T47.setTop (mkF m 353 #[.val (.int x0), .val (.int x1), .val (.int x2), .val (.int x3), .val (.int x4), .val (.int x5), .val (.ref ca), .val (.int n), .val (.int s0), .val (.int s1), .val (.int s2), .val (.int x5), .val (.int m1), .val (.int m2), .val (.int m3), .val (.ref sa), .val (.ref na), .val (.ref wsa), .val (.ref wna), .val (.ref ra), .val (.double (FP.l2d (own_sum (own_of x0 x1 x2 x3 0) si 0))), .second] [(.double (FP.l2d (own_sum (own_of x0 x1 x2 x3 0) si 0)))]))
    refine k_dload X47 hx (q := 355) rfl (hb hby at_353) rfl ?_
    refine k_dcmp X47 hx (q := 356) rfl (hb hby at_355) (v := 0) (Jvm.RoadKit.dcmpV_self (Fl.l2d_fin _).noNaN _) ?_
    refine k_if_ne X47 hx (q1 := 395) (q := 359) (by decide) (by decide) rfl (hb hby at_356) (fun hc => absurd rfl hc) (fun _ => ?_)
    have hkk : Ix n 0 := by
      have : k = 0 := by omega
      rwa [this] at hk
    have hnn : (0 : Nat).toInt32 = n := Int32.toInt_inj.mp (by rw [hkk.int]; decide)
    refine k_aload X47 hx (q := 361) rfl (hb hby at_359) rfl rfl ?_
    refine k_callV X47 hx hZ (y := (⟨"com/example/footwise/footwise/search/Route", "sections", "()[I"⟩ : MethodName)) (z := (⟨"com/example/footwise/footwise/search/Route", "sections", "()[I"⟩ : MethodName)) hown (hw _ (List.mem_of_getElem? (i := 30) rfl)) (hw _ (List.mem_of_getElem? (i := 31) rfl)) (notFace_of_selects (args := #[]) (mvT hZ (hw _ (List.mem_of_getElem? (i := 33) rfl)))) (hw _ (List.mem_of_getElem? (i := 33) rfl)) (hw _ (List.mem_of_getElem? (i := 32) rfl)) (hw _ (List.mem_of_getElem? (i := 34) rfl)) (hw _ (List.mem_of_getElem? (i := 4) rfl)) (by decide) E43 0 e47 (rm6 l Z a0 hw ra T43.heap n0 sa Fs43) (by decide) (by decide) (by decide) (by decide) (by rw [hml]; rfl) (a := ra) (as := []) (rest := []) pd_4 rfl (by first | exact Nat.le_refl _ | simp [Value.category]) (q := 364) rfl (hb hby at_361) ?_
    rintro _ T49 L49 X49 ⟨rfl, N49q, e49⟩
    have N49 := Fr.app N47 N49q
    show End _ _ _ _ _ _ _ (T49.setTop (mkF m 364 #[.val (.int x0), .val (.int x1), .val (.int x2), .val (.int x3), .val (.int x4), .val (.int x5), .val (.ref ca), .val (.int n), .val (.int s0), .val (.int s1), .val (.int s2), .val (.int x5), .val (.int m1), .val (.int m2), .val (.int m3), .val (.ref sa), .val (.ref na), .val (.ref wsa), .val (.ref wna), .val (.ref ra), .val (.double (FP.l2d (own_sum (own_of x0 x1 x2 x3 0) si 0))), .second] [(.ref sa)]))
    refine k_aload X49 hx (q := 366) rfl (hb hby at_364) rfl rfl ?_
    refine k_iload X49 hx (q := 368) rfl (hb hby at_366) rfl ?_
    have G50 := (G38.keep K43 nin0)
    have ne_wsa_wna : wsa ≠ wna := Nat.ne_of_lt (Nat.lt_of_lt_of_le (Vws).lt (Nat.le_of_eq g22.symm))
    have G51 := ((((((Vws.keep K22 nin0).keep K23 (ninS ne_wsa_wna nin0)).keep K28 (ninS ne_wsa_wna nin0)).keep K29 (ninS ne_wsa_wna nin0)).keep K30 (ninS ne_wsa_wna nin0)).keep K43 nin0)
    refine k_callS X49 hx hZ (y := (⟨"com/example/footwise/footwise/search/RouteOfPinLaw", "same", "([I[II)Z"⟩ : MethodName)) hown (hw _ (List.mem_of_getElem? (i := 35) rfl)) (hw _ (List.mem_of_getElem? (i := 36) rfl)) (hw _ (List.mem_of_getElem? (i := 37) rfl)) (hw _ (List.mem_of_getElem? (i := 38) rfl)) (by decide) 0 e49 (rm7 l Z a0 hw sa wsa n T43.heap n0 0 3 hkk hnn (by decide) (own_of s0 s1 s2 0 0) (own_of s0 s1 s2 0 0) (fun _ _ => rfl) G50 G51) (by decide) (by decide) (by decide) (by decide) (by rw [hml]; rfl) (as := [(.ref sa), (.ref wsa), (.int n)]) (rest := []) pd_5 rfl (by first | exact Nat.le_refl _ | simp [Value.category]) (q := 371) rfl (hb hby at_368) ?_
    rintro _ T52 L52 X52 ⟨rfl, N52q, e52⟩
    have N52 := Fr.app N49 N52q
    show End _ _ _ _ _ _ _ (T52.setTop (mkF m 371 #[.val (.int x0), .val (.int x1), .val (.int x2), .val (.int x3), .val (.int x4), .val (.int x5), .val (.ref ca), .val (.int n), .val (.int s0), .val (.int s1), .val (.int s2), .val (.int x5), .val (.int m1), .val (.int m2), .val (.int m3), .val (.ref sa), .val (.ref na), .val (.ref wsa), .val (.ref wna), .val (.ref ra), .val (.double (FP.l2d (own_sum (own_of x0 x1 x2 x3 0) si 0))), .second] [(.int (1 : Int32))]))
    refine k_if_eq X52 hx (q1 := 395) (q := 374) (by decide) (by decide) rfl (hb hby at_371) (fun hc => absurd hc (by decide)) (fun _ => ?_)
    refine k_aload X52 hx (q := 376) rfl (hb hby at_374) rfl rfl ?_
    refine k_callV X52 hx hZ (y := (⟨"com/example/footwise/footwise/search/Route", "nodes", "()[I"⟩ : MethodName)) (z := (⟨"com/example/footwise/footwise/search/Route", "nodes", "()[I"⟩ : MethodName)) hown (hw _ (List.mem_of_getElem? (i := 39) rfl)) (hw _ (List.mem_of_getElem? (i := 40) rfl)) (notFace_of_selects (args := #[]) (mvT hZ (hw _ (List.mem_of_getElem? (i := 42) rfl)))) (hw _ (List.mem_of_getElem? (i := 42) rfl)) (hw _ (List.mem_of_getElem? (i := 41) rfl)) (hw _ (List.mem_of_getElem? (i := 43) rfl)) (hw _ (List.mem_of_getElem? (i := 4) rfl)) (by decide) E43 0 e52 (rm8 l Z a0 hw ra T43.heap n0 na Fn43) (by decide) (by decide) (by decide) (by decide) (by rw [hml]; rfl) (a := ra) (as := []) (rest := []) pd_4 rfl (by first | exact Nat.le_refl _ | simp [Value.category]) (q := 379) rfl (hb hby at_376) ?_
    rintro _ T54 L54 X54 ⟨rfl, N54q, e54⟩
    have N54 := Fr.app N52 N54q
    show End _ _ _ _ _ _ _ (T54.setTop (mkF m 379 #[.val (.int x0), .val (.int x1), .val (.int x2), .val (.int x3), .val (.int x4), .val (.int x5), .val (.ref ca), .val (.int n), .val (.int s0), .val (.int s1), .val (.int s2), .val (.int x5), .val (.int m1), .val (.int m2), .val (.int m3), .val (.ref sa), .val (.ref na), .val (.ref wsa), .val (.ref wna), .val (.ref ra), .val (.double (FP.l2d (own_sum (own_of x0 x1 x2 x3 0) si 0))), .second] [(.ref na)]))
    refine k_aload X54 hx (q := 381) rfl (hb hby at_379) rfl rfl ?_
    refine k_iload X54 hx (q := 383) rfl (hb hby at_381) rfl ?_
    refine k_iconst X54 hx (v := (1 : Int32)) rfl (q := 384) rfl (hb hby at_383) ?_
    refine k_iadd X54 hx (q := 385) rfl (hb hby at_384) ?_
    have ne_na_wsa : na ≠ wsa := Nat.ne_of_lt (Nat.lt_of_lt_of_le (Vn).lt (Nat.le_of_eq g16.symm))
    have G55 := ((((Vn.keep K16 nin0).keep K17 (ninS ne_na_wsa nin0)).keep K20 (ninS ne_na_wsa nin0)).keep K21 (ninS ne_na_wsa nin0))
    have ne_na_wna : na ≠ wna := Nat.ne_of_lt (Nat.lt_of_lt_of_le (G55).lt (Nat.le_of_eq g22.symm))
    have G56 := ((((((((((Vn.keep K16 nin0).keep K17 (ninS ne_na_wsa nin0)).keep K20 (ninS ne_na_wsa nin0)).keep K21 (ninS ne_na_wsa nin0)).keep K22 nin0).keep K23 (ninS ne_na_wna nin0)).keep K28 (ninS ne_na_wna nin0)).keep K29 (ninS ne_na_wna nin0)).keep K30 (ninS ne_na_wna nin0)).keep K43 nin0)
    have G57 := (Vwn.keep K43 nin0)
    have hk1 := own_up hkk (by decide)
    have hnn1 : (1 : Nat).toInt32 = n + (1 : Int32) := Int32.toInt_inj.mp (by rw [hk1.int]; decide)
    refine k_callS X54 hx hZ (y := (⟨"com/example/footwise/footwise/search/RouteOfPinLaw", "same", "([I[II)Z"⟩ : MethodName)) hown (hw _ (List.mem_of_getElem? (i := 35) rfl)) (hw _ (List.mem_of_getElem? (i := 36) rfl)) (hw _ (List.mem_of_getElem? (i := 37) rfl)) (hw _ (List.mem_of_getElem? (i := 38) rfl)) (by decide) 0 e54 (rm7 l Z a0 hw na wna (n + (1 : Int32)) T43.heap n0 1 4 hk1 hnn1 (by decide) (own_of x5 m1 m2 m3 0) (own_of x5 m1 m2 m3 0) (fun _ _ => rfl) G56 G57) (by decide) (by decide) (by decide) (by decide) (by rw [hml]; rfl) (as := [(.ref na), (.ref wna), (.int (n + (1 : Int32)))]) (rest := []) pd_5 rfl (by first | exact Nat.le_refl _ | simp [Value.category]) (q := 388) rfl (hb hby at_385) ?_
    rintro _ T58 L58 X58 ⟨rfl, N58q, e58⟩
    have N58 := Fr.app N54 N58q
    show End _ _ _ _ _ _ _ (T58.setTop (mkF m 388 #[.val (.int x0), .val (.int x1), .val (.int x2), .val (.int x3), .val (.int x4), .val (.int x5), .val (.ref ca), .val (.int n), .val (.int s0), .val (.int s1), .val (.int s2), .val (.int x5), .val (.int m1), .val (.int m2), .val (.int m3), .val (.ref sa), .val (.ref na), .val (.ref wsa), .val (.ref wna), .val (.ref ra), .val (.double (FP.l2d (own_sum (own_of x0 x1 x2 x3 0) si 0))), .second] [(.int (1 : Int32))]))
    refine k_if_eq X58 hx (q1 := 395) (q := 391) (by decide) (by decide) rfl (hb hby at_388) (fun hc => absurd hc (by decide)) (fun _ => ?_)
    refine k_iconst X58 hx (v := (1 : Int32)) rfl (q := 392) rfl (hb hby at_391) ?_
    refine k_goto X58 hx (q := 396) (by decide) (by decide) (hb hby at_392) ?_
    exact k_retN X58 hx (t := .boolean) hlk (by decide) (by decide) hret (by simp) (hb hby at_396) ⟨rfl, N58⟩
set_option maxRecDepth 65536 in
set_option maxHeartbeats 40000000 in
theorem comes_1 {Post : Tables → Env → Array Value → State → Outcome → State → Prop} (hpost : ∀ tb e args s v u, (limb_1_1.after args s (.returned v) u = true ∧ limb_1_2.after args s (.returned v) u = true ∧ True) → FrameEnd s (.returned v) u (Jvm.fieldLocs frame_1_writes args s ++ Jvm.arrayLocs frame_1_arrays args s ++ Jvm.staticLocs frame_1_statics s) 24 128 → Post tb e args s (.returned v) u) :
    ArmFor flags0 classFile x code maxLocals ret World_1 tables_1 room_1 Calls_1 rest_1 Pre_1 Post := by
  intro l hfl _ _ p e ha hc hk s m args below hf hA hF happ hP
  obtain ⟨hcalls, hrest, hpre⟩ := hP
  obtain ⟨-, -, -, hnamed, -, -, -, hat⟩ := (Spec.applies_iff hf).mp happ
  obtain ⟨hg, hn⟩ := and_e (Cond.before_iff.mp (show (Jvm.Cond.and given_1 narrow_1).before args s = true from hpre))
  obtain ⟨gc, g0⟩ := and_e hg
  obtain ⟨a0, g1⟩ := and_e g0
  obtain ⟨a1, g2⟩ := and_e g1
  obtain ⟨a2, g3⟩ := and_e g2
  obtain ⟨a3, g4⟩ := and_e g3
  obtain ⟨a4, g5⟩ := and_e g4
  obtain ⟨w0, w1, w2, w3, w4, w5, rfl⟩ : ∃ w0 w1 w2 w3 w4 w5 : Value, args = #[w0, w1, w2, w3, w4, w5] := by
    have hs : args.size = 6 := by simpa [Cond.value, given_1] using gc
    obtain ⟨L⟩ := args
    match L, hs with
    | [w0, w1, w2, w3, w4, w5], _ => exact ⟨w0, w1, w2, w3, w4, w5, rfl⟩
  have hw := fun d (hd : d ∈ tables_1) => atoms_spec (ws := Jvm.Cond.code x code maxLocals ret :: tables_1) hat d (List.mem_cons_of_mem _ hd)
  have hfit : Fit s := fun {y c} hc i hi => by
    obtain ⟨ha, rfl⟩ := Array.getElem?_eq_some_iff.mp hc
    have q := List.all_eq_true.mp ((Array.all_eq_true_iff_forall_mem.mp hF) _ (Array.getElem_mem ha)) i (List.mem_range.mpr hi)
    simpa [Array.getElem?_eq_getElem hi] using q
  obtain ⟨i0, ei0⟩ := is_v a0
  obtain rfl : w0 = (.int i0) := Option.some.inj ei0
  obtain ⟨i1, ei1⟩ := is_v a1
  obtain rfl : w1 = (.int i1) := Option.some.inj ei1
  obtain ⟨i2, ei2⟩ := is_v a2
  obtain rfl : w2 = (.int i2) := Option.some.inj ei2
  obtain ⟨i3, ei3⟩ := is_v a3
  obtain rfl : w3 = (.int i3) := Option.some.inj ei3
  obtain ⟨i4, ei4⟩ := is_v a4
  obtain rfl : w4 = (.int i4) := Option.some.inj ei4
  obtain ⟨i5, ei5⟩ := is_v g5
  obtain rfl : w5 = (.int i5) := Option.some.inj ei5
  obtain ⟨n, o, h1, h2, h3, _, L, rfl, ⟨rfl, N⟩, hq⟩ := rmL l s _ hw i0 i1 i2 i3 i4 i5 s.heap s.heap.size (Nat.le_refl _) p e ha hc hk s m _ below hf ((Spec.applies_iff_loose hf).mp happ).1 ⟨rfl, State.Warmed39.refl s, rfl⟩ trivial
  refine ⟨n, _, h1, h2, h3, hpost _ _ _ _ _ _ ⟨Cond.after_iff.mpr rfl, Cond.after_iff.mpr (eq_i res_at (Term.int_eval (1)) rfl), trivial⟩ ⟨hq.1, hq.2.1, (hq.2.2.sift fun y hy => Or.inr (N y hy)).mono (by decide) (by decide)⟩⟩
theorem main_1_1 : Claimed_1_1 := comes_1 fun _ _ _ _ _ _ h hF => ⟨h.1, hF⟩
theorem main_1_2 : Claimed_1_2 := comes_1 fun _ _ _ _ _ _ h hF => ⟨h.2.1, hF⟩
end Jvm.Pilot.@@N@@
namespace Jvm.Pilot.@@N@@
open Jvm Jvm.ClassFile Sem Op Lib Jvm.Free Jvm.Stand Jvm.Pilot.@@N@@.Jvm.D
/-! MADE BY PROGRAM (witnessworld.py) out of the Statement's table words and the real class files: 12 classes; the members and pool entries that the words name. The judged class is class 1, her method 1. -/
namespace start1
open Jvm.ClassFile
def u (s : String) : CpInfo := .utf8 (stringToUtf16 s)
/-- a pool by its gaps: so many unusable entries, then the entry; so many at the end -/
def gap : Nat → List CpInfo → List CpInfo
  | 0, r => r
  | n + 1, r => .unusable :: gap n r
def poolList (es : List (Nat × CpInfo)) (last : Nat) : List CpInfo := es.foldr (fun e r => gap e.1 (e.2 :: r)) (gap last [])
def pool (es : List (Nat × CpInfo)) (last : Nat) : Array CpInfo := ⟨poolList es last⟩
def fileOf (pool : Array CpInfo) (this : Nat) (attrs : Array Attribute := #[]) (ms : Array MethodInfo := #[]) (fl : Nat := 33) (sup : Nat := 0) (ifs : Array Nat := #[]) (fds : Array FieldInfo := #[]) : ClassFile where
  minorVersion := 0
  majorVersion := 65
  constantPool := pool
  accessFlags := fl
  thisClass := this
  superClass := sup
  interfaces := ifs
  fields := fds
  methods := ms
  attributes := attrs
def plain (name : String) (sup : Option ClassId) : Class where
  name := name
  kind := .ordinary
  loader := none
  accessFlags := 33
  super := sup
  interfaces := #[]
  cf := none
  fields := #[]
  methods := #[]
  instanceTypes := #[]
  staticTypes := #[]
  resolved := #[]
  callSites := []
  init := .initialized
  statics := none
  mirror := none

def pool0 : Array CpInfo := pool [(5, u "<init>"), (0, u "()V"), (1, .class_ 10), (1, u "java/lang/Object")] 113

def k0c0 : Code := { maxStack := 0, maxLocals := 1, code := object_method_1_code, exceptionTable := #[], attributes := #[] }
def k0m0 : Method := { name := "<init>", desc := "()V", sig := { parameters := [], returnType := none }, accessFlags := 1, code := some k0c0 }
/-- java/lang/Object -/
def k0 : Class := { plain "java/lang/Object" none with
  accessFlags := 33
  interfaces := #[]
  cf := some (fileOf pool0 8 #[] #[{ accessFlags := 1, nameIndex := 5, descriptorIndex := 6, attributes := #[] }] 33 0 #[] #[])
  fields := #[]
  methods := #[k0m0]
  instanceTypes := #[]
  staticTypes := #[]
  resolved := Array.replicate 124 none
  statics := none }

def pool1 : Array CpInfo := pool [(2, .class_ 4), (1, u "java/lang/Object"), (0, u "<init>"), (0, u "()V"), (0, .methodref 8 9), (0, .class_ 10), (0, .nameAndType 11 12), (0, u "com/example/footwise/footwise/search/Route"), (0, u "of"), (0, u "([I[I[D)Lcom/example/footwise/footwise/search/Route;"), (0, .methodref 14 15), (0, .class_ 16), (0, .nameAndType 17 18), (0, u "com/example/footwise/footwise/search/RouteOfPinLaw"), (0, u "pick"), (0, u "(IIIII)D"), (0, .methodref 8 20), (0, .nameAndType 21 22), (0, u "cost"), (0, u "()D"), (0, .methodref 8 24), (0, .nameAndType 25 26), (0, u "sections"), (0, u "()[I"), (0, .methodref 14 28), (0, .nameAndType 29 30), (0, u "same"), (0, u "([I[II)Z"), (0, .methodref 8 32), (0, .nameAndType 33 26), (0, u "nodes"), (2, u "law"), (0, u "(IIIIII)Z")] 7

def k1m0 : Method := { name := "<init>", desc := "()V", sig := { parameters := [], returnType := none }, accessFlags := 1, code := none }
def k1c1 : Code := { maxStack := 7, maxLocals := 22, code := code, exceptionTable := #[], attributes := #[] }
def k1m1 : Method := { name := "law", desc := "(IIIIII)Z", sig := { parameters := [.int, .int, .int, .int, .int, .int], returnType := some .boolean }, accessFlags := 9, code := some k1c1 }
def k1c2 : Code := { maxStack := 2, maxLocals := 5, code := method_3_code, exceptionTable := #[], attributes := #[] }
def k1m2 : Method := { name := "pick", desc := "(IIIII)D", sig := { parameters := [.int, .int, .int, .int, .int], returnType := some .double }, accessFlags := 10, code := some k1c2 }
def k1c3 : Code := { maxStack := 3, maxLocals := 3, code := method_4_code, exceptionTable := #[], attributes := #[] }
def k1m3 : Method := { name := "same", desc := "([I[II)Z", sig := { parameters := [(.array .int), (.array .int), .int], returnType := some .boolean }, accessFlags := 10, code := some k1c3 }
/-- com/example/footwise/footwise/search/RouteOfPinLaw -/
def k1 : Class := { plain "com/example/footwise/footwise/search/RouteOfPinLaw" (some 0) with
  accessFlags := 49
  interfaces := #[]
  cf := some (fileOf pool1 14 #[] #[{ accessFlags := 1, nameIndex := 5, descriptorIndex := 6, attributes := #[] }, { accessFlags := 9, nameIndex := 36, descriptorIndex := 37, attributes := #[] }, { accessFlags := 10, nameIndex := 17, descriptorIndex := 18, attributes := #[] }, { accessFlags := 10, nameIndex := 29, descriptorIndex := 30, attributes := #[] }] 49 2 #[] #[])
  fields := #[]
  methods := #[k1m0, k1m1, k1m2, k1m3]
  instanceTypes := #[]
  staticTypes := #[]
  resolved := Array.replicate 45 none
  statics := none }

def pool2 : Array CpInfo := pool [(1, .methodref 2 3), (0, .class_ 4), (0, .nameAndType 5 6), (0, u "java/lang/Object"), (0, u "<init>"), (0, u "()V"), (0, .class_ 8), (0, u "java/lang/Record")] 13

def k2c0 : Code := { maxStack := 1, maxLocals := 1, code := jdk_30_method_1_code, exceptionTable := #[], attributes := #[] }
def k2m0 : Method := { name := "<init>", desc := "()V", sig := { parameters := [], returnType := none }, accessFlags := 4, code := some k2c0 }
/-- java/lang/Record -/
def k2 : Class := { plain "java/lang/Record" (some 0) with
  accessFlags := 1057
  interfaces := #[]
  cf := some (fileOf pool2 7 #[] #[{ accessFlags := 4, nameIndex := 5, descriptorIndex := 6, attributes := #[] }] 1057 2 #[] #[])
  fields := #[]
  methods := #[k2m0]
  instanceTypes := #[]
  staticTypes := #[]
  resolved := Array.replicate 22 none
  statics := none }

def pool3 : Array CpInfo := pool [(1, .methodref 2 3), (0, .class_ 4), (0, .nameAndType 5 6), (0, u "java/lang/Record"), (0, u "<init>"), (0, u "()V"), (0, .fieldref 8 9), (0, .class_ 10), (0, .nameAndType 11 12), (0, u "com/example/footwise/footwise/search/Route"), (0, u "nodes"), (0, u "[I"), (0, .fieldref 8 14), (0, .nameAndType 15 12), (0, u "sections"), (0, .fieldref 8 17), (0, .nameAndType 18 19), (0, u "cost"), (0, u "D"), (0, .methodref 8 21), (0, .nameAndType 5 22), (0, u "([I[ID)V"), (2, u "()[I"), (40, u "of"), (0, u "([I[I[D)Lcom/example/footwise/footwise/search/Route;"), (9, u "()D")] 22

def k3c0 : Code := { maxStack := 3, maxLocals := 5, code := prog_42_method_1_code, exceptionTable := #[], attributes := #[] }
def k3m0 : Method := { name := "<init>", desc := "([I[ID)V", sig := { parameters := [(.array .int), (.array .int), .double], returnType := none }, accessFlags := 1, code := some k3c0 }
def k3c1 : Code := { maxStack := 6, maxLocals := 9, code := prog_42_method_2_code, exceptionTable := #[], attributes := #[] }
def k3m1 : Method := { name := "of", desc := "([I[I[D)Lcom/example/footwise/footwise/search/Route;", sig := { parameters := [(.array .int), (.array .int), (.array .double)], returnType := some (.object "com/example/footwise/footwise/search/Route") }, accessFlags := 8, code := some k3c1 }
def k3c2 : Code := { maxStack := 1, maxLocals := 1, code := prog_42_method_7_code, exceptionTable := #[], attributes := #[] }
def k3m2 : Method := { name := "nodes", desc := "()[I", sig := { parameters := [], returnType := some (.array .int) }, accessFlags := 1, code := some k3c2 }
def k3c3 : Code := { maxStack := 1, maxLocals := 1, code := prog_42_method_8_code, exceptionTable := #[], attributes := #[] }
def k3m3 : Method := { name := "sections", desc := "()[I", sig := { parameters := [], returnType := some (.array .int) }, accessFlags := 1, code := some k3c3 }
def k3c4 : Code := { maxStack := 2, maxLocals := 1, code := prog_42_method_9_code, exceptionTable := #[], attributes := #[] }
def k3m4 : Method := { name := "cost", desc := "()D", sig := { parameters := [], returnType := some .double }, accessFlags := 1, code := some k3c4 }
/-- com/example/footwise/footwise/search/Route -/
def k3 : Class := { plain "com/example/footwise/footwise/search/Route" (some 2) with
  accessFlags := 49
  interfaces := #[]
  cf := some (fileOf pool3 8 #[] #[{ accessFlags := 1, nameIndex := 5, descriptorIndex := 22, attributes := #[] }, { accessFlags := 8, nameIndex := 66, descriptorIndex := 67, attributes := #[] }, { accessFlags := 1, nameIndex := 11, descriptorIndex := 25, attributes := #[] }, { accessFlags := 1, nameIndex := 15, descriptorIndex := 25, attributes := #[] }, { accessFlags := 1, nameIndex := 18, descriptorIndex := 77, attributes := #[] }] 49 2 #[] #[{ accessFlags := 18, nameIndex := 11, descriptorIndex := 12, attributes := #[] }, { accessFlags := 18, nameIndex := 15, descriptorIndex := 12, attributes := #[] }, { accessFlags := 18, nameIndex := 18, descriptorIndex := 19, attributes := #[] }])
  fields := #[{ name := "nodes", type := (.array .int), accessFlags := 18, slot := 0, constantValue := 0 }, { name := "sections", type := (.array .int), accessFlags := 18, slot := 1, constantValue := 0 }, { name := "cost", type := .double, accessFlags := 18, slot := 2, constantValue := 0 }]
  methods := #[k3m0, k3m1, k3m2, k3m3, k3m4]
  instanceTypes := #[(.array .int), (.array .int), .double]
  staticTypes := #[]
  resolved := Array.replicate 100 none
  statics := none }

def pool4 : Array CpInfo := pool [(1, u "java/lang/Cloneable"), (0, .class_ 1), (0, u "java/lang/Object"), (0, .class_ 3)] 3

/-- java/lang/Cloneable -/
def k4 : Class := { plain "java/lang/Cloneable" (some 0) with
  accessFlags := 1537
  interfaces := #[]
  cf := some (fileOf pool4 2 #[] #[] 1537 4 #[] #[])
  fields := #[]
  methods := #[]
  instanceTypes := #[]
  staticTypes := #[]
  resolved := Array.replicate 8 none
  statics := none }

def pool5 : Array CpInfo := pool [(1, u "java/io/Serializable"), (0, .class_ 1), (0, u "java/lang/Object"), (0, .class_ 3)] 3

/-- java/io/Serializable -/
def k5 : Class := { plain "java/io/Serializable" (some 0) with
  accessFlags := 1537
  interfaces := #[]
  cf := some (fileOf pool5 2 #[] #[] 1537 4 #[] #[])
  fields := #[]
  methods := #[]
  instanceTypes := #[]
  staticTypes := #[]
  resolved := Array.replicate 8 none
  statics := none }

/-- the primitive byte -/
def k6 : Class := { plain "byte" none with kind := .primitive 'B', accessFlags := 0x411 }
/-- [B -/
def k7 : Class := { plain "[B" (some 0) with kind := .array 6 .byte, interfaces := #[4, 5], accessFlags := 1041 }

/-- the primitive double -/
def k8 : Class := { plain "double" none with kind := .primitive 'D', accessFlags := 0x411 }
/-- [D -/
def k9 : Class := { plain "[D" (some 0) with kind := .array 8 .double, interfaces := #[4, 5], accessFlags := 1041 }

/-- the primitive int -/
def k10 : Class := { plain "int" none with kind := .primitive 'I', accessFlags := 0x411 }
/-- [I -/
def k11 : Class := { plain "[I" (some 0) with kind := .array 10 .int, interfaces := #[4, 5], accessFlags := 1041 }

def heap : Heap := #[]
def classes : Array Class := #[k0, k1, k2, k3, k4, k5, k6, k7, k8, k9, k10, k11]
def interned : List (Array UInt16 × Addr) := []
def slotsUsed : Nat := 0
def theMethod : MethodId := ⟨1, 1⟩
def args0 : Array Value := #[.int 3, .int 4, .int 5, .int 6, .int 2, .int 9]
def aboutOver (below : List Frame) : State where
  vm := { classes := classes, interned := interned.toArray }
  heap := heap
  slotsUsed := slotsUsed
  threads := #[{ frames := .invoking theMethod args0 :: below }]
def below0 : List Frame := [.native { method := ⟨0, 0⟩, args := #[] }]
def about1 : State := aboutOver below0
def p0 : Program := .bare "" "" ""
def e0 : Env := launch0.env 0 0 0
theorem w_frames : about1.frames = Frame.invoking theMethod args0 :: below0 := rfl
set_option maxRecDepth 65536 in
theorem w_args : argsFit about1.vm theMethod args0 = true := by decide +kernel
set_option maxRecDepth 65536 in
theorem w_heap : heapFits about1 = true := by decide +kernel
set_option maxRecDepth 65536 in
theorem w_runnable : about1.curStatus? = some .runnable := by decide +kernel
set_option maxRecDepth 65536 in
theorem w_alone : about1.alone = true := by decide +kernel
set_option maxRecDepth 65536 in
theorem w_named : about1.methodNamed? x = some theMethod := by decide +kernel
set_option maxRecDepth 65536 in
theorem w_hears : about1.hears theMethod below0 = true := by decide +kernel
set_option maxRecDepth 65536 in
theorem w_ripe : about1.ripe theMethod args0 below0 = true := by decide +kernel
theorem w_running : about1.status = .running := rfl
set_option maxRecDepth 65536 in
theorem w_room : about1.hasRoom e0.platform room_1 = true :=
  launch0.hasRoom_least _ room_1 (by decide +kernel) (by decide +kernel) (by decide +kernel) (by decide +kernel) (by decide +kernel) (by decide +kernel)
theorem allAtoms_all (ts : List Jvm.Cond) (a : Array Jvm.Value) (st : Jvm.State) : (allAtoms ts).before a st = ts.all (fun c => c.before a st) := by
  induction ts with
  | nil => rfl
  | cons c t ih =>
    show (Jvm.Cond.and c (allAtoms t)).before a st = _
    rw [Jvm.Cond.before_and, ih, List.all_cons]
def words1 : List Jvm.Cond := Jvm.Cond.code x code maxLocals ret :: tables_1
/-- a 'code' word, met by the world's own term for the bytes: nothing is compared byte by byte -/
theorem code_word {y : MethodName} {bytes : ByteArray} {mx : Nat} {rt : Option FieldType} {a : Array Value} {s : State} {m : MethodId} {meth : Method} {c : Code} (h1 : s.methodNamed? y = some m) (h2 : s.vm.method? m = some meth) (h3 : meth.code = some c) (h4 : c.code = bytes)
    (h5 : (c.maxLocals == mx && c.exceptionTable.isEmpty && decide (c.maxStack ≤ mostOperands) && decide (meth.sig.returnType = rt) && !meth.locks && decide (parseMethodDescriptor y.desc = some meth.sig)) = true) : (Jvm.Cond.code y bytes mx rt).before a s = true := by
  simp only [Bool.and_eq_true, beq_iff_eq, Bool.not_eq_true', decide_eq_true_eq] at h5
  obtain ⟨⟨⟨⟨⟨g1, g2⟩, g3⟩, g4⟩, g5⟩, g6⟩ := h5
  simp [Cond.before, Cond.holds, Cond.value, h1, h2, h3, h4, g1, g2, g3, g4, g5, g6]
def isCode : Jvm.Cond → Bool
  | .code _ _ _ _ => true
  | _ => false
theorem all_split {L : List Jvm.Cond} {P : Jvm.Cond → Bool} (h1 : L.all (fun c => isCode c || P c) = true) (h2 : ∀ c ∈ L.filter isCode, P c = true) : L.all P = true := by
  refine List.all_eq_true.mpr fun c hc => ?_
  have h := List.all_eq_true.mp h1 c hc
  rcases Bool.eq_false_or_eq_true (isCode c) with hi | hi
  · exact h2 c (List.mem_filter.mpr ⟨hc, hi⟩)
  · simpa [hi] using h
set_option maxRecDepth 65536 in
theorem w_c0 : (Jvm.Cond.code x code maxLocals ret).before args0 about1 = true := code_word (m := ⟨1, 1⟩) (meth := k1m1) (c := k1c1) (by decide +kernel) rfl rfl rfl (by decide +kernel)
set_option maxRecDepth 65536 in
theorem w_c1 : (Jvm.Cond.code ({ cls := "com/example/footwise/footwise/search/Route", name := "of", desc := "([I[I[D)Lcom/example/footwise/footwise/search/Route;" } : Jvm.MethodName) prog_42_method_2_code (9 : Nat) (Option.some (Jvm.ClassFile.FieldType.object "com/example/footwise/footwise/search/Route"))).before args0 about1 = true := code_word (m := ⟨3, 1⟩) (meth := k3m1) (c := k3c1) (by decide +kernel) rfl rfl rfl (by decide +kernel)
set_option maxRecDepth 65536 in
theorem w_c2 : (Jvm.Cond.code ({ cls := "com/example/footwise/footwise/search/Route", name := "<init>", desc := "([I[ID)V" } : Jvm.MethodName) prog_42_method_1_code (5 : Nat) (Option.none : Option Jvm.ClassFile.FieldType)).before args0 about1 = true := code_word (m := ⟨3, 0⟩) (meth := k3m0) (c := k3c0) (by decide +kernel) rfl rfl rfl (by decide +kernel)
set_option maxRecDepth 65536 in
theorem w_c3 : (Jvm.Cond.code ({ cls := "java/lang/Record", name := "<init>", desc := "()V" } : Jvm.MethodName) jdk_30_method_1_code (1 : Nat) (Option.none : Option Jvm.ClassFile.FieldType)).before args0 about1 = true := code_word (m := ⟨2, 0⟩) (meth := k2m0) (c := k2c0) (by decide +kernel) rfl rfl rfl (by decide +kernel)
set_option maxRecDepth 65536 in
theorem w_c4 : (Jvm.Cond.code ({ cls := "java/lang/Object", name := "<init>", desc := "()V" } : Jvm.MethodName) object_method_1_code (1 : Nat) (Option.none : Option Jvm.ClassFile.FieldType)).before args0 about1 = true := code_word (m := ⟨0, 0⟩) (meth := k0m0) (c := k0c0) (by decide +kernel) rfl rfl rfl (by decide +kernel)
set_option maxRecDepth 65536 in
theorem w_c5 : (Jvm.Cond.code ({ cls := "com/example/footwise/footwise/search/Route", name := "cost", desc := "()D" } : Jvm.MethodName) prog_42_method_9_code (1 : Nat) (Option.some Jvm.ClassFile.FieldType.double)).before args0 about1 = true := code_word (m := ⟨3, 4⟩) (meth := k3m4) (c := k3c4) (by decide +kernel) rfl rfl rfl (by decide +kernel)
set_option maxRecDepth 65536 in
theorem w_c6 : (Jvm.Cond.code ({ cls := "com/example/footwise/footwise/search/Route", name := "sections", desc := "()[I" } : Jvm.MethodName) prog_42_method_8_code (1 : Nat) (Option.some (Jvm.ClassFile.FieldType.array Jvm.ClassFile.FieldType.int))).before args0 about1 = true := code_word (m := ⟨3, 3⟩) (meth := k3m3) (c := k3c3) (by decide +kernel) rfl rfl rfl (by decide +kernel)
set_option maxRecDepth 65536 in
theorem w_c7 : (Jvm.Cond.code ({ cls := "com/example/footwise/footwise/search/RouteOfPinLaw", name := "same", desc := "([I[II)Z" } : Jvm.MethodName) method_4_code (3 : Nat) (Option.some Jvm.ClassFile.FieldType.boolean)).before args0 about1 = true := code_word (m := ⟨1, 3⟩) (meth := k1m3) (c := k1c3) (by decide +kernel) rfl rfl rfl (by decide +kernel)
set_option maxRecDepth 65536 in
theorem w_c8 : (Jvm.Cond.code ({ cls := "com/example/footwise/footwise/search/Route", name := "nodes", desc := "()[I" } : Jvm.MethodName) prog_42_method_7_code (1 : Nat) (Option.some (Jvm.ClassFile.FieldType.array Jvm.ClassFile.FieldType.int))).before args0 about1 = true := code_word (m := ⟨3, 2⟩) (meth := k3m2) (c := k3c2) (by decide +kernel) rfl rfl rfl (by decide +kernel)
set_option maxRecDepth 65536 in
theorem w_c9 : (Jvm.Cond.code ({ cls := "com/example/footwise/footwise/search/RouteOfPinLaw", name := "pick", desc := "(IIIII)D" } : Jvm.MethodName) method_3_code (5 : Nat) (Option.some Jvm.ClassFile.FieldType.double)).before args0 about1 = true := code_word (m := ⟨1, 2⟩) (meth := k1m2) (c := k1c2) (by decide +kernel) rfl rfl rfl (by decide +kernel)
def codes1 : List Jvm.Cond := [Jvm.Cond.code x code maxLocals ret, Jvm.Cond.code ({ cls := "com/example/footwise/footwise/search/Route", name := "of", desc := "([I[I[D)Lcom/example/footwise/footwise/search/Route;" } : Jvm.MethodName) prog_42_method_2_code (9 : Nat) (Option.some (Jvm.ClassFile.FieldType.object "com/example/footwise/footwise/search/Route")), Jvm.Cond.code ({ cls := "com/example/footwise/footwise/search/Route", name := "<init>", desc := "([I[ID)V" } : Jvm.MethodName) prog_42_method_1_code (5 : Nat) (Option.none : Option Jvm.ClassFile.FieldType), Jvm.Cond.code ({ cls := "java/lang/Record", name := "<init>", desc := "()V" } : Jvm.MethodName) jdk_30_method_1_code (1 : Nat) (Option.none : Option Jvm.ClassFile.FieldType), Jvm.Cond.code ({ cls := "java/lang/Object", name := "<init>", desc := "()V" } : Jvm.MethodName) object_method_1_code (1 : Nat) (Option.none : Option Jvm.ClassFile.FieldType), Jvm.Cond.code ({ cls := "com/example/footwise/footwise/search/Route", name := "cost", desc := "()D" } : Jvm.MethodName) prog_42_method_9_code (1 : Nat) (Option.some Jvm.ClassFile.FieldType.double), Jvm.Cond.code ({ cls := "com/example/footwise/footwise/search/Route", name := "sections", desc := "()[I" } : Jvm.MethodName) prog_42_method_8_code (1 : Nat) (Option.some (Jvm.ClassFile.FieldType.array Jvm.ClassFile.FieldType.int)), Jvm.Cond.code ({ cls := "com/example/footwise/footwise/search/RouteOfPinLaw", name := "same", desc := "([I[II)Z" } : Jvm.MethodName) method_4_code (3 : Nat) (Option.some Jvm.ClassFile.FieldType.boolean), Jvm.Cond.code ({ cls := "com/example/footwise/footwise/search/Route", name := "nodes", desc := "()[I" } : Jvm.MethodName) prog_42_method_7_code (1 : Nat) (Option.some (Jvm.ClassFile.FieldType.array Jvm.ClassFile.FieldType.int)), Jvm.Cond.code ({ cls := "com/example/footwise/footwise/search/RouteOfPinLaw", name := "pick", desc := "(IIIII)D" } : Jvm.MethodName) method_3_code (5 : Nat) (Option.some Jvm.ClassFile.FieldType.double)]
set_option maxRecDepth 65536 in
theorem codes_eq : words1.filter isCode = codes1 := rfl
theorem w_codes : ∀ c ∈ words1.filter isCode, c.before args0 about1 = true := by
  rw [codes_eq]
  intro c hc
  simp only [codes1, List.mem_cons, List.not_mem_nil, or_false] at hc
  rcases hc with rfl | rfl | rfl | rfl | rfl | rfl | rfl | rfl | rfl | rfl
  · exact w_c0
  · exact w_c1
  · exact w_c2
  · exact w_c3
  · exact w_c4
  · exact w_c5
  · exact w_c6
  · exact w_c7
  · exact w_c8
  · exact w_c9
set_option maxRecDepth 65536 in
theorem w_t1 : (words1.take 24).all (fun c => isCode c || c.before args0 about1) = true := by decide +kernel
set_option maxRecDepth 65536 in
theorem w_t2 : (words1.drop 24).all (fun c => isCode c || c.before args0 about1) = true := by decide +kernel
theorem w_tables : (allAtoms (Jvm.Cond.code x code maxLocals ret :: tables_1)).before args0 about1 = true := by
  rw [allAtoms_all]
  show words1.all (fun c => c.before args0 about1) = true
  refine all_split ?_ w_codes
  rw [← List.take_append_drop 24 words1, List.all_append, w_t1, w_t2]
  rfl
set_option maxRecDepth 65536 in
theorem w_case : (Jvm.Cond.and given_1 narrow_1).before args0 about1 = true := by decide +kernel
theorem w_applies : (headSpec (Jvm.Cond.code x code maxLocals ret :: tables_1) room_1).applies x e0.platform about1 = true :=
  (Spec.applies_iff w_frames).mpr ⟨w_running, w_runnable, w_alone, w_named, w_hears, w_ripe, w_room, w_tables⟩
theorem atStart : AtStart classFile x code maxLocals ret World_1 tables_1 room_1 Calls_1 rest_1 Pre_1 launch0 p0 e0 about1 theMethod args0 below0 :=
  ⟨lists_1, trivial, launch0.admits_env _ _ _, launch0.least_env, fairChoices_fair.cas, fairChoices_fair.clock, w_frames, w_args, w_heap, w_applies, trivial, trivial, w_case⟩
end start1
theorem witness_1 : WitnessClaimed_1 := ⟨start1.p0, start1.e0, start1.about1, start1.theMethod, start1.args0, start1.below0, start1.atStart⟩
end Jvm.Pilot.@@N@@
