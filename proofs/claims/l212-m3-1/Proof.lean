import JvmDerived
import JvmDerived.Pilot.@@N@@Statement
import JvmDerived.Pilot.@@N@@Code
set_option linter.unusedVariables false
set_option linter.unusedSimpArgs false
namespace Jvm.OwnK
open Sem ClassFile Op Lib Jvm.Stand Jvm.Free Jvm.LawKit Jvm.RoadKit
/-- from cur the body's run returns; Q holds of what it returns, the heap then, the places written; F of the end -/
def EndG (p : Program) (e : Env) (below : List Frame) (F : Outcome → State → List Loc → Prop) (Q : Option Value → Heap → List Loc → Prop) (cur : State) : Prop :=
  ∃ s₂ o, Steps p.tables e below cur s₂ ∧ s₂.status = .running ∧ Ended s₂ below o ∧ ∃ v L, o = .returned v ∧ Q v s₂.heap L ∧ F o s₂ L
abbrev End (p : Program) (e : Env) (below : List Frame) (s : State) (Q : Option Value → Heap → List Loc → Prop) (cl sl : Nat) (cur : State) : Prop := EndG p e below (fun o t L => FrameEnd s o t L cl sl) Q cur
/-- a body's contract: entered with the arguments 'as' at the heap h (tables warmer than Z's) it returns, and Q holds -/
def Con (l : Launch) (Z : State) (y : MethodName) (bytes : ByteArray) (maxL : Nat) (ret : Option FieldType) (ws : List Cond) (rm : Room) (as : Array Value) (h : Heap) (Q : Option Value → Heap → List Loc → Prop) : Prop :=
  MetFree l y (head1 (Cond.code y bytes maxL ret :: ws) rm) (fun a U => a = as ∧ Z.Warmed39 U.vm ∧ U.heap = h) (fun _ _ _ _ _ => True) (fun _ U o U' => ∃ v L, o = .returned v ∧ Q v U'.heap L ∧ FrameEnd U o U' L rm.cells rm.slots)
theorem retI_eq {a b : Int32} (h : b = a) : (some (Value.int a) : Option Value) = some (.int b) := by rw [h]
theorem retJ_eq {a b : Int64} (h : b = a) : (some (Value.long a) : Option Value) = some (.long b) := by rw [h]
theorem retD_eq {a b : UInt64} (h : b = a) : (some (Value.double a) : Option Value) = some (.double b) := by rw [h]
section Steps
variable {p : Program} {l : Launch} {e : Env} {R : Room} {s : State} {m : MethodId} {args : Array Value} {below : List Frame} {meth : Method} {c : Code} {T : State} {locs : List Loc} {cells slots : Nat} {Fe : Outcome → State → List Loc → Prop} {Q : Option Value → Heap → List Loc → Prop} {cl sl : Nat} {pc q : Nat} {Ls : Array Slot} {rest : List Value}
theorem EndG.st {cur nxt : State} (k : EndG p e below Fe Q nxt) (st : ∀ t, Steps p.tables e below nxt t → Steps p.tables e below cur t) : EndG p e below Fe Q cur := by
  obtain ⟨s₂, o, h1, r⟩ := k; exact ⟨s₂, o, st _ h1, r⟩
theorem EndG.tr {cur nxt : State} (k : EndG p e below Fe Q nxt) (st : Steps p.tables e below cur nxt) : EndG p e below Fe Q cur := by
  obtain ⟨s₂, o, h1, r⟩ := k; exact ⟨s₂, o, st.trans h1, r⟩
theorem End.cast {g g' : JFrame} (k : EndG p e below Fe Q (T.setTop g')) (h : g = g') : EndG p e below Fe Q (T.setTop g) := h ▸ k
theorem Con.of {Z : State} {y : MethodName} {bytes : ByteArray} {maxL : Nat} {ret : Option FieldType} {ws : List Cond} {rm : Room} {as : Array Value} {h : Heap} (hpl : plainFor y = true)
    (body : ∀ (p : Program) (e : Env) (s : State) (m : MethodId) (below : List Frame) (meth : Method) (c : Code) (s₁ : State), Stand p l e rm s m as below meth c s₁ [] 0 0 → p.tables.exec = Jvm.exec → c.code = bytes → c.maxLocals = maxL → s.vm.findClass y.cls = some m.cls → meth.name = y.name → meth.sig.returnType = ret → meth.locks = false → Z.Warmed39 s.vm → s₁.heap = h → End p e below s Q rm.cells rm.slots (s₁.setTop (entryFrame m as maxL))) :
    Con l Z y bytes maxL ret ws rm as h Q := by
  refine MetFree.of_bodySF hpl hisR ?_
  intro p e s m args below meth c s₁ Bd hml hP hK
  obtain ⟨rfl, hZ, hh⟩ := hP
  obtain ⟨s₂, o, h1, h2, h3, v, L, h4, h5, h6⟩ := body p e s m below meth c s₁ (Stand.of_body Bd) Bd.exec Bd.bytes hml (findClass_of_methodNamed Bd.named) (name_of_methodNamed Bd.named Bd.method).1 Bd.returns Bd.notSynchronized hZ (by rw [← hh, Bd.state]; rfl)
  exact ⟨s₂, o, h1, h2, h3, v, L, h4, h5, h6⟩
theorem Con.mono {Z : State} {y : MethodName} {bytes : ByteArray} {maxL : Nat} {ret : Option FieldType} {ws : List Cond} {rm : Room} {as : Array Value} {h : Heap} {Q' : Option Value → Heap → List Loc → Prop} (k : Con l Z y bytes maxL ret ws rm as h Q) (hQ : ∀ v hh L, Q v hh L → Q' v hh L) : Con l Z y bytes maxL ret ws rm as h Q' := by
  intro p e ha hc hk s m args below hf happ hP hK
  obtain ⟨n, o, h1, h2, h3, v, L, h4, h5, h6⟩ := k p e ha hc hk s m args below hf happ hP hK
  exact ⟨n, o, h1, h2, h3, v, L, h4, hQ _ _ _ h5, h6⟩
theorem k_iloadN (X : Stand p l e R s m args below meth c T locs cells slots) (hx : p.tables.exec = Jvm.exec) {j : Fin 4} {v : Int32} (hq : pc + 1 = q) (hd : decode c.code pc = .ok (.iload_n j, 1)) (hl : Ls[j.val]? = some (.val (.int v))) (k : EndG p e below Fe Q (T.setTop (mkF m q Ls (.int v :: rest)))) : EndG p e below Fe Q (T.setTop (mkF m pc Ls (rest))) := by
  subst hq; exact k.st fun t w => XS.iloadN X.here hx rfl hd hl w
theorem k_iload (X : Stand p l e R s m args below meth c T locs cells slots) (hx : p.tables.exec = Jvm.exec) {j : Nat} {v : Int32} (hq : pc + 2 = q) (hd : decode c.code pc = .ok (.iload j, 2)) (hl : Ls[j]? = some (.val (.int v))) (k : EndG p e below Fe Q (T.setTop (mkF m q Ls (.int v :: rest)))) : EndG p e below Fe Q (T.setTop (mkF m pc Ls (rest))) := by
  subst hq; exact k.st fun t w => XS.iload X.here hx rfl hd hl w
theorem k_istoreN (X : Stand p l e R s m args below meth c T locs cells slots) (hx : p.tables.exec = Jvm.exec) {j : Fin 4} {v : Int32} {L' : Array Slot} (hq : pc + 1 = q) (hd : decode c.code pc = .ok (.istore_n j, 1)) (hl : storeLocals Ls j.val (.int v) = some L') (k : EndG p e below Fe Q (T.setTop (mkF m q L' (rest)))) : EndG p e below Fe Q (T.setTop (mkF m pc Ls (.int v :: rest))) := by
  subst hq; exact k.st fun t w => XS.istoreN X.here hx rfl hd rfl hl w
theorem k_istore (X : Stand p l e R s m args below meth c T locs cells slots) (hx : p.tables.exec = Jvm.exec) {j : Nat} {v : Int32} {L' : Array Slot} (hq : pc + 2 = q) (hd : decode c.code pc = .ok (.istore j, 2)) (hl : storeLocals Ls j (.int v) = some L') (k : EndG p e below Fe Q (T.setTop (mkF m q L' (rest)))) : EndG p e below Fe Q (T.setTop (mkF m pc Ls (.int v :: rest))) := by
  subst hq; exact k.st fun t w => XS.istore X.here hx rfl hd rfl hl w
theorem k_aloadN (X : Stand p l e R s m args below meth c T locs cells slots) (hx : p.tables.exec = Jvm.exec) {j : Fin 4} {v : Value} (hq : pc + 1 = q) (hd : decode c.code pc = .ok (.aload_n j, 1)) (hl : Ls[j.val]? = some (.val v)) (hv : v.isRef = true) (k : EndG p e below Fe Q (T.setTop (mkF m q Ls (v :: rest)))) : EndG p e below Fe Q (T.setTop (mkF m pc Ls (rest))) := by
  subst hq; exact k.st fun t w => XS.aloadN X.here hx rfl hd hl hv w
theorem k_aload (X : Stand p l e R s m args below meth c T locs cells slots) (hx : p.tables.exec = Jvm.exec) {j : Nat} {v : Value} (hq : pc + 2 = q) (hd : decode c.code pc = .ok (.aload j, 2)) (hl : Ls[j]? = some (.val v)) (hv : v.isRef = true) (k : EndG p e below Fe Q (T.setTop (mkF m q Ls (v :: rest)))) : EndG p e below Fe Q (T.setTop (mkF m pc Ls (rest))) := by
  subst hq; exact k.st fun t w => XS.aload X.here hx rfl hd hl hv w
theorem k_astoreN (X : Stand p l e R s m args below meth c T locs cells slots) (hx : p.tables.exec = Jvm.exec) {j : Fin 4} {v : Value} {L' : Array Slot} (hq : pc + 1 = q) (hd : decode c.code pc = .ok (.astore_n j, 1)) (hv : v.isRef = true) (hl : storeLocals Ls j.val v = some L') (k : EndG p e below Fe Q (T.setTop (mkF m q L' (rest)))) : EndG p e below Fe Q (T.setTop (mkF m pc Ls (v :: rest))) := by
  subst hq; exact k.st fun t w => XS.astoreN X.here hx rfl hd rfl hv hl w
theorem k_astore (X : Stand p l e R s m args below meth c T locs cells slots) (hx : p.tables.exec = Jvm.exec) {j : Nat} {v : Value} {L' : Array Slot} (hq : pc + 2 = q) (hd : decode c.code pc = .ok (.astore j, 2)) (hv : v.isRef = true) (hl : storeLocals Ls j v = some L') (k : EndG p e below Fe Q (T.setTop (mkF m q L' (rest)))) : EndG p e below Fe Q (T.setTop (mkF m pc Ls (v :: rest))) := by
  subst hq; exact k.st fun t w => XS.astore X.here hx rfl hd rfl hv hl w
theorem k_iconst (X : Stand p l e R s m args below meth c T locs cells slots) (hx : p.tables.exec = Jvm.exec) {i : Int} {v : Int32} (hv : Int32.ofInt i = v) (hq : pc + 1 = q) (hd : decode c.code pc = .ok (.iconst i, 1)) (k : EndG p e below Fe Q (T.setTop (mkF m q Ls (.int v :: rest)))) : EndG p e below Fe Q (T.setTop (mkF m pc Ls (rest))) := by
  subst hq hv; exact k.st fun t w => XS.iconst X.here hx rfl hd w
theorem k_bipush (X : Stand p l e R s m args below meth c T locs cells slots) (hx : p.tables.exec = Jvm.exec) {i : Int} {v : Int32} (hv : (Int8.ofInt i).toInt32 = v) (hq : pc + 2 = q) (hd : decode c.code pc = .ok (.bipush i, 2)) (k : EndG p e below Fe Q (T.setTop (mkF m q Ls (.int v :: rest)))) : EndG p e below Fe Q (T.setTop (mkF m pc Ls (rest))) := by
  subst hq hv; exact k.st fun t w => XS.bipush X.here hx rfl hd w
theorem k_sipush (X : Stand p l e R s m args below meth c T locs cells slots) (hx : p.tables.exec = Jvm.exec) {i : Int} {v : Int32} (hv : (Int16.ofInt i).toInt32 = v) (hq : pc + 3 = q) (hd : decode c.code pc = .ok (.sipush i, 3)) (k : EndG p e below Fe Q (T.setTop (mkF m q Ls (.int v :: rest)))) : EndG p e below Fe Q (T.setTop (mkF m pc Ls (rest))) := by
  subst hq hv; exact k.st fun t w => XS.sipush X.here hx rfl hd w
theorem k_aconst_null (X : Stand p l e R s m args below meth c T locs cells slots) (hx : p.tables.exec = Jvm.exec) (hq : pc + 1 = q) (hd : decode c.code pc = .ok (.aconst_null, 1)) (k : EndG p e below Fe Q (T.setTop (mkF m q Ls (.null :: rest)))) : EndG p e below Fe Q (T.setTop (mkF m pc Ls (rest))) := by
  subst hq; exact k.st fun t w => XS.aconstNull X.here hx rfl hd w
theorem k_isub (X : Stand p l e R s m args below meth c T locs cells slots) (hx : p.tables.exec = Jvm.exec) {x y : Int32} (hq : pc + 1 = q) (hd : decode c.code pc = .ok (.isub, 1)) (k : EndG p e below Fe Q (T.setTop (mkF m q Ls (.int (x - y) :: rest)))) : EndG p e below Fe Q (T.setTop (mkF m pc Ls (.int y :: .int x :: rest))) := by
  subst hq; exact k.st fun t w => XS.isub X.here hx rfl hd rfl w
theorem k_iand (X : Stand p l e R s m args below meth c T locs cells slots) (hx : p.tables.exec = Jvm.exec) {x y : Int32} (hq : pc + 1 = q) (hd : decode c.code pc = .ok (.iand, 1)) (k : EndG p e below Fe Q (T.setTop (mkF m q Ls (.int (x &&& y) :: rest)))) : EndG p e below Fe Q (T.setTop (mkF m pc Ls (.int y :: .int x :: rest))) := by
  subst hq; exact k.st fun t w => XS.iand X.here hx rfl hd rfl w
theorem k_iushr (X : Stand p l e R s m args below meth c T locs cells slots) (hx : p.tables.exec = Jvm.exec) {x y : Int32} (hq : pc + 1 = q) (hd : decode c.code pc = .ok (.iushr, 1)) (k : EndG p e below Fe Q (T.setTop (mkF m q Ls (.int ((x.toUInt32 >>> (y &&& 31).toUInt32).toInt32) :: rest)))) : EndG p e below Fe Q (T.setTop (mkF m pc Ls (.int y :: .int x :: rest))) := by
  subst hq; exact k.st fun t w => XS.iushr X.here hx rfl hd rfl w
theorem k_i2b (X : Stand p l e R s m args below meth c T locs cells slots) (hx : p.tables.exec = Jvm.exec) {x : Int32} (hq : pc + 1 = q) (hd : decode c.code pc = .ok (.i2b, 1)) (k : EndG p e below Fe Q (T.setTop (mkF m q Ls (.int x.toInt8.toInt32 :: rest)))) : EndG p e below Fe Q (T.setTop (mkF m pc Ls (.int x :: rest))) := by
  subst hq; exact k.st fun t w => XS.i2b X.here hx rfl hd rfl w
theorem k_i2c (X : Stand p l e R s m args below meth c T locs cells slots) (hx : p.tables.exec = Jvm.exec) {x : Int32} (hq : pc + 1 = q) (hd : decode c.code pc = .ok (.i2c, 1)) (k : EndG p e below Fe Q (T.setTop (mkF m q Ls (.int x.toUInt32.toUInt16.toUInt32.toInt32 :: rest)))) : EndG p e below Fe Q (T.setTop (mkF m pc Ls (.int x :: rest))) := by
  subst hq; exact k.st fun t w => XS.i2c X.here hx rfl hd rfl w
theorem k_dup (X : Stand p l e R s m args below meth c T locs cells slots) (hx : p.tables.exec = Jvm.exec) {x : Value} (hq : pc + 1 = q) (hd : decode c.code pc = .ok (.dup, 1)) (hc : x.category = 1) (k : EndG p e below Fe Q (T.setTop (mkF m q Ls (x :: x :: rest)))) : EndG p e below Fe Q (T.setTop (mkF m pc Ls (x :: rest))) := by
  subst hq; exact k.st fun t w => XS.dup X.here hx rfl hd rfl hc w
theorem k_iinc (X : Stand p l e R s m args below meth c T locs cells slots) (hx : p.tables.exec = Jvm.exec) {j : Nat} {i : Int} {x : Int32} {L' : Array Slot} (hq : pc + 3 = q) (hd : decode c.code pc = .ok (.iinc j i, 3)) (hl : Ls[j]? = some (.val (.int x))) (hl' : storeLocals Ls j (.int (x + Int32.ofInt i)) = some L') (k : EndG p e below Fe Q (T.setTop (mkF m q L' (rest)))) : EndG p e below Fe Q (T.setTop (mkF m pc Ls (rest))) := by
  subst hq; exact k.st fun t w => XS.iinc X.here hx rfl hd hl hl' w
theorem k_goto (X : Stand p l e R s m args below meth c T locs cells slots) (hx : p.tables.exec = Jvm.exec) {o : Int} (ho : 0 ≤ (pc : Int) + o) (hp : ((pc : Int) + o).toNat = q) (hd : decode c.code pc = .ok (.goto o, 3)) (k : EndG p e below Fe Q (T.setTop (mkF m q Ls (rest)))) : EndG p e below Fe Q (T.setTop (mkF m pc Ls (rest))) :=
  k.st fun t w => XS.goto X.here hx rfl (pc0 := pc) (pc' := q) rfl hd ho hp w
theorem k_icmp_eq (X : Stand p l e R s m args below meth c T locs cells slots) (hx : p.tables.exec = Jvm.exec) {x y : Int32} {o : Int} {q1 : Nat} (ho : 0 ≤ (pc : Int) + o) (hp : ((pc : Int) + o).toNat = q1) (hq : pc + 3 = q) (hd : decode c.code pc = .ok (.if_icmp .eq o, 3)) (kt : x = y → EndG p e below Fe Q (T.setTop (mkF m q1 Ls (rest)))) (kf : ¬ x = y → EndG p e below Fe Q (T.setTop (mkF m q Ls (rest)))) : EndG p e below Fe Q (T.setTop (mkF m pc Ls (.int y :: .int x :: rest))) := by
  by_cases h : x = y
  · exact (kt h).st fun t w => XS.icmpYes X.here hx rfl (pc0 := pc) (pc' := q1) rfl hd rfl (XT.ii_eq_t h) ho hp w
  · subst hq; exact (kf h).st fun t w => XS.icmpNo X.here hx rfl hd rfl (XT.ii_eq_f h) w
theorem k_if_eq (X : Stand p l e R s m args below meth c T locs cells slots) (hx : p.tables.exec = Jvm.exec) {x : Int32} {o : Int} {q1 : Nat} (ho : 0 ≤ (pc : Int) + o) (hp : ((pc : Int) + o).toNat = q1) (hq : pc + 3 = q) (hd : decode c.code pc = .ok (.ifCond .eq o, 3)) (kt : x = 0 → EndG p e below Fe Q (T.setTop (mkF m q1 Ls (rest)))) (kf : ¬ x = 0 → EndG p e below Fe Q (T.setTop (mkF m q Ls (rest)))) : EndG p e below Fe Q (T.setTop (mkF m pc Ls (.int x :: rest))) := by
  by_cases h : x = 0
  · exact (kt h).st fun t w => XS.ifYes X.here hx rfl (pc0 := pc) (pc' := q1) rfl hd rfl (XT.i0_eq_t h) ho hp w
  · subst hq; exact (kf h).st fun t w => XS.ifNo X.here hx rfl hd rfl (XT.i0_eq_f h) w
theorem k_icmp_ne (X : Stand p l e R s m args below meth c T locs cells slots) (hx : p.tables.exec = Jvm.exec) {x y : Int32} {o : Int} {q1 : Nat} (ho : 0 ≤ (pc : Int) + o) (hp : ((pc : Int) + o).toNat = q1) (hq : pc + 3 = q) (hd : decode c.code pc = .ok (.if_icmp .ne o, 3)) (kt : ¬ x = y → EndG p e below Fe Q (T.setTop (mkF m q1 Ls (rest)))) (kf : x = y → EndG p e below Fe Q (T.setTop (mkF m q Ls (rest)))) : EndG p e below Fe Q (T.setTop (mkF m pc Ls (.int y :: .int x :: rest))) := by
  by_cases h : x = y
  · subst hq; exact (kf h).st fun t w => XS.icmpNo X.here hx rfl hd rfl (XT.ii_ne_f h) w
  · exact (kt h).st fun t w => XS.icmpYes X.here hx rfl (pc0 := pc) (pc' := q1) rfl hd rfl (XT.ii_ne_t h) ho hp w
theorem k_if_ne (X : Stand p l e R s m args below meth c T locs cells slots) (hx : p.tables.exec = Jvm.exec) {x : Int32} {o : Int} {q1 : Nat} (ho : 0 ≤ (pc : Int) + o) (hp : ((pc : Int) + o).toNat = q1) (hq : pc + 3 = q) (hd : decode c.code pc = .ok (.ifCond .ne o, 3)) (kt : ¬ x = 0 → EndG p e below Fe Q (T.setTop (mkF m q1 Ls (rest)))) (kf : x = 0 → EndG p e below Fe Q (T.setTop (mkF m q Ls (rest)))) : EndG p e below Fe Q (T.setTop (mkF m pc Ls (.int x :: rest))) := by
  by_cases h : x = 0
  · subst hq; exact (kf h).st fun t w => XS.ifNo X.here hx rfl hd rfl (XT.i0_ne_f h) w
  · exact (kt h).st fun t w => XS.ifYes X.here hx rfl (pc0 := pc) (pc' := q1) rfl hd rfl (XT.i0_ne_t h) ho hp w
theorem k_icmp_ge (X : Stand p l e R s m args below meth c T locs cells slots) (hx : p.tables.exec = Jvm.exec) {x y : Int32} {o : Int} {q1 : Nat} (ho : 0 ≤ (pc : Int) + o) (hp : ((pc : Int) + o).toNat = q1) (hq : pc + 3 = q) (hd : decode c.code pc = .ok (.if_icmp .ge o, 3)) (kt : ¬ x < y → EndG p e below Fe Q (T.setTop (mkF m q1 Ls (rest)))) (kf : x < y → EndG p e below Fe Q (T.setTop (mkF m q Ls (rest)))) : EndG p e below Fe Q (T.setTop (mkF m pc Ls (.int y :: .int x :: rest))) := by
  by_cases h : x < y
  · subst hq; exact (kf h).st fun t w => XS.icmpNo X.here hx rfl hd rfl (XT.ii_ge_f h) w
  · exact (kt h).st fun t w => XS.icmpYes X.here hx rfl (pc0 := pc) (pc' := q1) rfl hd rfl (XT.ii_ge_t h) ho hp w
theorem k_icmp_gt (X : Stand p l e R s m args below meth c T locs cells slots) (hx : p.tables.exec = Jvm.exec) {x y : Int32} {o : Int} {q1 : Nat} (ho : 0 ≤ (pc : Int) + o) (hp : ((pc : Int) + o).toNat = q1) (hq : pc + 3 = q) (hd : decode c.code pc = .ok (.if_icmp .gt o, 3)) (kt : y < x → EndG p e below Fe Q (T.setTop (mkF m q1 Ls (rest)))) (kf : ¬ y < x → EndG p e below Fe Q (T.setTop (mkF m q Ls (rest)))) : EndG p e below Fe Q (T.setTop (mkF m pc Ls (.int y :: .int x :: rest))) := by
  by_cases h : y < x
  · exact (kt h).st fun t w => XS.icmpYes X.here hx rfl (pc0 := pc) (pc' := q1) rfl hd rfl (XT.ii_gt_t h) ho hp w
  · subst hq; exact (kf h).st fun t w => XS.icmpNo X.here hx rfl hd rfl (XT.ii_gt_f h) w
theorem k_icmp_le (X : Stand p l e R s m args below meth c T locs cells slots) (hx : p.tables.exec = Jvm.exec) {x y : Int32} {o : Int} {q1 : Nat} (ho : 0 ≤ (pc : Int) + o) (hp : ((pc : Int) + o).toNat = q1) (hq : pc + 3 = q) (hd : decode c.code pc = .ok (.if_icmp .le o, 3)) (kt : ¬ y < x → EndG p e below Fe Q (T.setTop (mkF m q1 Ls (rest)))) (kf : y < x → EndG p e below Fe Q (T.setTop (mkF m q Ls (rest)))) : EndG p e below Fe Q (T.setTop (mkF m pc Ls (.int y :: .int x :: rest))) := by
  by_cases h : y < x
  · subst hq; exact (kf h).st fun t w => XS.icmpNo X.here hx rfl hd rfl (XT.ii_le_f h) w
  · exact (kt h).st fun t w => XS.icmpYes X.here hx rfl (pc0 := pc) (pc' := q1) rfl hd rfl (XT.ii_le_t h) ho hp w
theorem k_acmp_y (X : Stand p l e R s m args below meth c T locs cells slots) (hx : p.tables.exec = Jvm.exec) {cd : ACond} {o : Int} {x y : Value} (ho : 0 ≤ (pc : Int) + o) (hp : ((pc : Int) + o).toNat = q) (hd : decode c.code pc = .ok (.if_acmp cd o, 3)) (hx' : x.isRef = true) (hy' : y.isRef = true) (hc : XT.acmp cd x y = true) (k : EndG p e below Fe Q (T.setTop (mkF m q Ls (rest)))) : EndG p e below Fe Q (T.setTop (mkF m pc Ls (y :: x :: rest))) :=
  k.st fun t w => XT.acmpYes X.here hx rfl (pc0 := pc) (pc' := q) rfl hd rfl hx' hy' hc ho hp w
theorem k_acmp_n (X : Stand p l e R s m args below meth c T locs cells slots) (hx : p.tables.exec = Jvm.exec) {cd : ACond} {o : Int} {x y : Value} (hq : pc + 3 = q) (hd : decode c.code pc = .ok (.if_acmp cd o, 3)) (hx' : x.isRef = true) (hy' : y.isRef = true) (hc : XT.acmp cd x y = false) (k : EndG p e below Fe Q (T.setTop (mkF m q Ls (rest)))) : EndG p e below Fe Q (T.setTop (mkF m pc Ls (y :: x :: rest))) := by
  subst hq; exact k.st fun t w => XT.acmpNo X.here hx rfl hd rfl hx' hy' hc w
theorem k_retN (X : Stand p l e R s m args below meth c T locs cells slots) (hx : p.tables.exec = Jvm.exec) {z : Int32} {t : FieldType} (hlk : meth.locks = false) (hcl : cells ≤ cl) (hsl : slots ≤ sl) (hret : meth.sig.returnType = some t) (ht : t = .boolean ∨ t = .byte ∨ t = .char ∨ t = .short) (hd : decode c.code pc = .ok (.ireturn, 1)) (hQ : Q (some (.int (nar t z))) T.heap locs) : End p e below s Q cl sl (T.setTop (mkF m pc Ls (.int z :: rest))) := by
  obtain ⟨fs, hr, hrun, hended, hW, hsame⟩ := X.leave (v := (some (.int (nar t z)))) (fun h => by rw [hret] at h; cases h) hlk
  refine ⟨_, _, ?_, hrun, hended, _, _, rfl, hQ, ⟨_, rfl⟩, hW, hsame.mono hcl hsl⟩
  exact retN X hx hret ht hd hr
theorem k_retI (X : Stand p l e R s m args below meth c T locs cells slots) (hx : p.tables.exec = Jvm.exec) {z : Int32} (hlk : meth.locks = false) (hcl : cells ≤ cl) (hsl : slots ≤ sl) (hret : meth.sig.returnType = some .int) (hd : decode c.code pc = .ok (.ireturn, 1)) (hQ : Q (some (.int z)) T.heap locs) : End p e below s Q cl sl (T.setTop (mkF m pc Ls (.int z :: rest))) := by
  obtain ⟨fs, hr, hrun, hended, hW, hsame⟩ := X.leave (v := (some (.int z))) (fun h => by rw [hret] at h; cases h) hlk
  refine ⟨_, _, ?_, hrun, hended, _, _, rfl, hQ, ⟨_, rfl⟩, hW, hsame.mono hcl hsl⟩
  exact retOut X hx hret rfl (Or.inl ⟨rfl, Or.inl rfl, _, rfl⟩) hd hr
theorem k_retA (X : Stand p l e R s m args below meth c T locs cells slots) (hx : p.tables.exec = Jvm.exec) {z : Value} {t : FieldType} (hlk : meth.locks = false) (hcl : cells ≤ cl) (hsl : slots ≤ sl) (hret : meth.sig.returnType = some t) (ht : t.isReference = true) (hz : z.isRef = true) (hd : decode c.code pc = .ok (.areturn, 1)) (hQ : Q (some z) T.heap locs) : End p e below s Q cl sl (T.setTop (mkF m pc Ls (z :: rest))) := by
  obtain ⟨fs, hr, hrun, hended, hW, hsame⟩ := X.leave (v := (some z)) (fun h => by rw [hret] at h; cases h) hlk
  refine ⟨_, _, ?_, hrun, hended, _, _, rfl, hQ, ⟨_, rfl⟩, hW, hsame.mono hcl hsl⟩
  exact retOut X hx hret (by cases t <;> first | rfl | (simp [FieldType.isReference] at ht)) (Or.inr (Or.inr (Or.inr (Or.inr ⟨rfl, ht, hz⟩)))) hd hr
theorem k_retV (X : Stand p l e R s m args below meth c T locs cells slots) (hx : p.tables.exec = Jvm.exec)  (hlk : meth.locks = false) (hcl : cells ≤ cl) (hsl : slots ≤ sl) (hret : meth.sig.returnType = none) (hd : decode c.code pc = .ok (.return_, 1)) (hQ : Q none T.heap locs) : End p e below s Q cl sl (T.setTop (mkF m pc Ls ([]))) := by
  obtain ⟨fs, hr, hrun, hended, hW, hsame⟩ := X.leave (v := none) (fun _ => rfl) hlk
  refine ⟨_, _, ?_, hrun, hended, _, _, rfl, hQ, ⟨_, rfl⟩, hW, hsame.mono hcl hsl⟩
  exact X.returnOut hx hret hd hr
variable {Z : State} {a0 : Array Value} {h : Heap}
theorem k_getF (X : Stand p l e R s m args below meth c T locs cells slots) (hx : p.tables.exec = Jvm.exec) (hZ : Z.Warmed39 s.vm) {own R0 O n d host : String} {index : Nat} (hown : s.vm.findClass own = some m.cls) (w0 : (Cond.fieldLink own index R0 n d).before a0 Z = true ∨ (Cond.fieldLinkNest own index R0 n d host).before a0 Z = true) (via : Via Z R0 O n d) (eT : T.heap = h) {a : Addr} {v : Value} (hq : pc + 3 = q) (hd : decode c.code pc = .ok (.getfield index, 3)) (F : Fld Z h a O n d v) (k : ∀ T', Stand p l e R s m args below meth c T' locs cells slots → T'.heap = h → EndG p e below Fe Q (T'.setTop (mkF m q Ls (v :: rest)))) : EndG p e below Fe Q (T.setTop (mkF m pc Ls (.ref a :: rest))) := by
  subst hq; obtain ⟨T', X', e', st⟩ := getF X hx hZ hown w0 via eT F (g := (mkF m pc Ls (.ref a :: rest))) rfl rfl hd
  exact (k T' X' e').st st
theorem k_getS (X : Stand p l e R s m args below meth c T locs cells slots) (hx : p.tables.exec = Jvm.exec) (hZ : Z.Warmed39 s.vm) {own R0 O n d host : String} {index : Nat} (hown : s.vm.findClass own = some m.cls) (w0 : (Cond.fieldLink own index R0 n d).before a0 Z = true ∨ (Cond.fieldLinkNest own index R0 n d host).before a0 Z = true) (via : Via Z R0 O n d) (eT : T.heap = h) {v : Value} (hq : pc + 3 = q) (hd : decode c.code pc = .ok (.getstatic index, 3)) (F : Sta Z h O n d v) (k : ∀ T', Stand p l e R s m args below meth c T' locs cells slots → T'.heap = h → EndG p e below Fe Q (T'.setTop (mkF m q Ls (v :: rest)))) : EndG p e below Fe Q (T.setTop (mkF m pc Ls (rest))) := by
  subst hq; obtain ⟨T', X', e', st⟩ := getS2 X hx hZ hown w0 via eT F (g := (mkF m pc Ls (rest))) rfl hd
  exact (k T' X' e').st st
theorem k_putF (X : Stand p l e R s m args below meth c T locs cells slots) (hx : p.tables.exec = Jvm.exec) (hZ : Z.Warmed39 s.vm) {own R0 O n d host C : String} {index kk : Nat} {ty : FieldType} (hown : s.vm.findClass own = some m.cls) (w0 : (Cond.fieldLink own index R0 n d).before a0 Z = true ∨ (Cond.fieldLinkNest own index R0 n d host).before a0 Z = true) (via : Via Z R0 O n d) (eT : T.heap = h) {a : Addr} {v old : Value} (L0 : (Cond.lays C O n d).before a0 Z = true ∨ ((Cond.laysFinal C O n d).before a0 Z = true ∧ own = O ∧ meth.name = "<init>")) (wi : (Cond.instantiable C kk).before a0 Z = true) (hty : parseFieldDescriptor d = some ty) (hn : narrow ty v = v) (hf : fits ty v = true) (hq : pc + 3 = q) (hd : decode c.code pc = .ok (.putfield index, 3)) (F : Fld Z h a O n d old) (E : Exa Z h a C) (k : ∀ T' h', Stand p l e R s m args below meth c T' (locs ++ [⟨a, Jvm.RoadKit.slotOf Z O n d⟩]) cells slots → T'.heap = h' → Wr h h' a (Jvm.RoadKit.slotOf Z O n d) v → EndG p e below Fe Q (T'.setTop (mkF m q Ls (rest)))) : EndG p e below Fe Q (T.setTop (mkF m pc Ls (v :: .ref a :: rest))) := by
  subst hq; obtain ⟨T', h', X', e', W', st⟩ := putF X hx hZ hown w0 via eT F E L0 wi hty hn hf (g := (mkF m pc Ls (v :: .ref a :: rest))) rfl rfl hd
  exact (k T' h' X' e' W').st st
theorem k_putFN (X : Stand p l e R s m args below meth c T locs cells slots) (hx : p.tables.exec = Jvm.exec) (hZ : Z.Warmed39 s.vm) {own R0 O n d C : String} {index kk : Nat} {ty : FieldType} (hown : s.vm.findClass own = some m.cls) (w0 : (Cond.fieldLink own index R0 n d).before a0 Z = true) (via : Via Z R0 O n d) (eT : T.heap = h) {a : Addr} {v v' old : Value} (L0 : (Cond.lays C O n d).before a0 Z = true ∨ ((Cond.laysFinal C O n d).before a0 Z = true ∧ own = O ∧ meth.name = "<init>")) (wi : (Cond.instantiable C kk).before a0 Z = true) (hty : parseFieldDescriptor d = some ty) (hn : narrow ty v = v') (hf : fits ty v' = true) (hq : pc + 3 = q) (hd : decode c.code pc = .ok (.putfield index, 3)) (F : Fld Z h a O n d old) (E : Exa Z h a C) (k : ∀ T' h', Stand p l e R s m args below meth c T' (locs ++ [⟨a, Jvm.RoadKit.slotOf Z O n d⟩]) cells slots → T'.heap = h' → Wr h h' a (Jvm.RoadKit.slotOf Z O n d) v' → EndG p e below Fe Q (T'.setTop (mkF m q Ls (rest)))) : EndG p e below Fe Q (T.setTop (mkF m pc Ls (v :: .ref a :: rest))) := by
  subst hq; obtain ⟨T', h', X', e', W', st⟩ := putFN X hx hZ hown w0 via eT F E L0 wi hty hn hf (g := (mkF m pc Ls (v :: .ref a :: rest))) rfl rfl hd
  exact (k T' h' X' e' W').st st
theorem k_new (X : Stand p l e R s m args below meth c T locs cells slots) (hx : p.tables.exec = Jvm.exec) (hZ : Z.Warmed39 s.vm) {own C : String} {index n : Nat} (hown : s.vm.findClass own = some m.cls) (w0 : (Cond.classLink own index C).before a0 Z = true) (wi : (Cond.instantiable C n).before a0 Z = true) (wz : (Cond.initialized C).before a0 Z = true) (eT : T.heap = h) (hq : pc + 3 = q) (hd : decode c.code pc = .ok (.new index, 3)) (hc : cells + 1 ≤ R.cells) (hl : slots + n ≤ R.slots) (k : ∀ T' h' a, Stand p l e R s m args below meth c T' locs (cells + 1) (slots + n) → T'.heap = h' → a = h.size → Ext h h' → Exa Z h' a C → (∀ {O nm d : String} {ty : FieldType}, Laid Z a0 C O nm d → parseFieldDescriptor d = some ty → Fld Z h' a O nm d (defaultValue ty)) → EndG p e below Fe Q (T'.setTop (mkF m q Ls (.ref a :: rest)))) : EndG p e below Fe Q (T.setTop (mkF m pc Ls (rest))) := by
  subst hq; obtain ⟨T', h', X', e', E', A', D', -, st⟩ := newO X hx hZ hown w0 wi wz eT (g := (mkF m pc Ls (rest))) rfl hd hc hl
  exact (k T' h' _ X' e' rfl E' A' D').st st
theorem k_newP (X : Stand p l e R s m args below meth c T locs cells slots) (hx : p.tables.exec = Jvm.exec) (hZ : Z.Warmed39 s.vm) {aty : ArrayType} (w0 : (Cond.arrayClass (newarray.typeOf aty)).before a0 Z = true) (eT : T.heap = h) {n : Int32} (hq : pc + 2 = q) (hd : decode c.code pc = .ok (.newarray aty, 2)) (hn : ¬ n < 0) {cap : Nat} (hcap : n.toNatClampNeg ≤ cap) (hb : cap * 8 ≤ 536870912) (hc : cells + 1 ≤ R.cells) (hl : slots + cap ≤ R.slots) (k : ∀ T' h' a cA, Stand p l e R s m args below meth c T' locs (cells + 1) (slots + cap) → T'.heap = h' → a = h.size → Ext h h' → Arr Z h' a (newA cA (newarray.typeOf aty) n) (newarray.typeOf aty) → EndG p e below Fe Q (T'.setTop (mkF m q Ls (.ref a :: rest)))) : EndG p e below Fe Q (T.setTop (mkF m pc Ls (.int n :: rest))) := by
  subst hq; obtain ⟨T', h', cA, X', e', E', A', st⟩ := newP X hx hZ w0 eT (g := (mkF m pc Ls (.int n :: rest))) rfl hd rfl hn hcap hb hc hl
  exact (k T' h' _ cA X' e' rfl E' A').st st
theorem k_cast (X : Stand p l e R s m args below meth c T locs cells slots) (hx : p.tables.exec = Jvm.exec) (hZ : Z.Warmed39 s.vm) {own K : String} {index : Nat} (hown : s.vm.findClass own = some m.cls) (w0 : (Cond.classLink own index K).before a0 Z = true) (eT : T.heap = h) {a : Addr} (hq : pc + 3 = q) (hd : decode c.code pc = .ok (.checkcast index, 3)) (F : Ins Z h a K true) (k : ∀ T', Stand p l e R s m args below meth c T' locs cells slots → T'.heap = h → EndG p e below Fe Q (T'.setTop (mkF m q Ls (.ref a :: rest)))) : EndG p e below Fe Q (T.setTop (mkF m pc Ls (.ref a :: rest))) := by
  subst hq; obtain ⟨T', X', e', st⟩ := castY X hx hZ hown w0 eT F (g := (mkF m pc Ls (.ref a :: rest))) rfl rfl hd
  exact (k T' X' e').st st
theorem k_instY (X : Stand p l e R s m args below meth c T locs cells slots) (hx : p.tables.exec = Jvm.exec) (hZ : Z.Warmed39 s.vm) {own K : String} {index : Nat} (hown : s.vm.findClass own = some m.cls) (w0 : (Cond.classLink own index K).before a0 Z = true) (eT : T.heap = h) {a : Addr} (hq : pc + 3 = q) (hd : decode c.code pc = .ok (.instanceof index, 3)) (F : Ins Z h a K true) (k : ∀ T', Stand p l e R s m args below meth c T' locs cells slots → T'.heap = h → EndG p e below Fe Q (T'.setTop (mkF m q Ls (.int 1 :: rest)))) : EndG p e below Fe Q (T.setTop (mkF m pc Ls (.ref a :: rest))) := by
  subst hq; obtain ⟨T', X', e', st⟩ := instY X hx hZ hown w0 eT F (g := (mkF m pc Ls (.ref a :: rest))) rfl rfl hd
  exact (k T' X' e').st st
theorem k_initO (X : Stand p l e R s m args below meth c T locs cells slots) (hx : p.tables.exec = Jvm.exec) (hZ : Z.Warmed39 s.vm) {own : String} {index : Nat} (hown : s.vm.findClass own = some m.cls) (w1 : (Cond.methodLink own index Lib.objectInit).before a0 Z = true) (w2 : (Cond.instanceMethod Lib.objectInit).before a0 Z = true) (w3 : (Cond.code Lib.objectInit ⟨#[0xb1]⟩ 1 none).before a0 Z = true) (eT : T.heap = h) {a : Addr} (hq : pc + 3 = q) (hd : decode c.code pc = .ok (.invokespecial index, 3)) (hls : Ls.size = c.maxLocals) (hf : 1 ≤ R.frames) (W : Nat) (hW : 2 * 0 + (rest.map fun v => v.category).sum ≤ W) (hl : W + 12 ≤ R.locals) (k : ∀ T', Stand p l e R s m args below meth c T' locs cells slots → T'.heap = h → EndG p e below Fe Q (T'.setTop (mkF m q Ls (rest)))) : EndG p e below Fe Q (T.setTop (mkF m pc Ls (.ref a :: rest))) := by
  subst hq; obtain ⟨T', X', e', st⟩ := initO X hx hZ hown w1 w2 w3 eT (g := (mkF m pc Ls (.ref a :: rest))) rfl hls rfl hd hf (W := W) hW hl
  exact (k T' X' e').st st
end Steps
/-- the array at a has n places; the place t holds v t -/
def Ary (Z : State) (h : Heap) (a : Addr) (ty : FieldType) (n : Nat) (v : Nat → Value) : Prop := ∃ c : Cell, Arr Z h a c ty ∧ c.slots.size = n ∧ n < 2 ^ 31 ∧ ∀ t, t < n → c.slots[t]? = some (v t)
/-- g, but x at i -/
def upd {α : Type} (g : Nat → α) (i : Nat) (x : α) : Nat → α := fun t => if t = i then x else g t
theorem upd_same {α : Type} (g : Nat → α) (i : Nat) (x : α) : upd g i x i = x := if_pos rfl
theorem upd_other {α : Type} (g : Nat → α) {i t : Nat} (x : α) (q : t ≠ i) : upd g i x t = g t := if_neg q
section Arys
variable {Z : State} {h h' : Heap} {a b : Addr} {ty : FieldType} {n : Nat} {v w : Nat → Value} {sl : Nat} {x : Value} {ws : List Addr}
theorem Ary.lt (F : Ary Z h a ty n v) : a < h.size := by obtain ⟨c, A, -⟩ := F; exact A.lt
theorem Ary.ext (F : Ary Z h a ty n v) (E : Ext h h') : Ary Z h' a ty n v := by obtain ⟨c, A, r⟩ := F; exact ⟨c, A.ext E, r⟩
theorem Ary.other (F : Ary Z h b ty n v) (W : Wr h h' a sl x) (q : b ≠ a) : Ary Z h' b ty n v := by obtain ⟨c, A, r⟩ := F; exact ⟨c, A.other W q, r⟩
theorem Ary.keep (F : Ary Z h a ty n v) (K : Keep h h' ws) (q : a ∉ ws) : Ary Z h' a ty n v := by obtain ⟨c, A, r⟩ := F; exact ⟨c, ⟨K.2.1 a c A.1 q, A.2⟩, r⟩
theorem Ary.same (F : Ary Z h a ty n v) (W : Wr h h' a sl x) : Ary Z h' a ty n (fun t => if t = sl then x else v t) := by
  obtain ⟨c, A, S, B, H⟩ := F
  refine ⟨_, A.same W, by rw [sz_set, S], B, fun t ht => ?_⟩
  by_cases q : t = sl
  · subst q; simp [Cell.setSlot, S, ht]
  · simp only [if_neg q, Cell.setSlot]; rw [Array.getElem?_setIfInBounds_ne (Ne.symm q)]; exact H t ht
theorem Ary.congr (F : Ary Z h a ty n v) (q : ∀ t, t < n → v t = w t) : Ary Z h a ty n w := by obtain ⟨c, A, S, B, H⟩ := F; exact ⟨c, A, S, B, fun t ht => by rw [H t ht, q t ht]⟩
theorem Ary.new {k : ClassId} {z : Int32} (A : Arr Z h a (newA k ty z) ty) (q : ¬ z < 0) (hn : z.toNatClampNeg = n) : Ary Z h a ty n (fun _ => defaultValue ty) := by
  subst hn; exact ⟨_, A, sz_new _ _ _, (back32 q).2, fun t ht => by simp [newA, ht]⟩
theorem Keep.of_ext (E : Ext h h') : Keep h h' [] := (Keep.refl h []).ext E
def Cls (h : Heap) (a : Addr) (k : ClassId) : Prop := ∃ c : Cell, h[a]? = some c ∧ c.cls = k
theorem Cls.lt {k : ClassId} (F : Cls h a k) : a < h.size := by obtain ⟨c, h1, -⟩ := F; exact (Array.getElem?_eq_some_iff.mp h1).1
theorem Cls.keep {k : ClassId} (F : Cls h a k) (K : Keep h h' ws) : Cls h' a k := by obtain ⟨c, h1, h2⟩ := F; obtain ⟨c', q1, q2, -⟩ := K.2.2 _ _ h1; exact ⟨c', q1, q2.trans h2⟩
theorem Sto.ofA {k : ClassId} {C : String} {y : Addr} (A : Ary Z h a ty n v) (q : Cls h a k) (O : Ovr Z k C) (I : Ins Z h y C true) : Sto Z h a (.ref y) := by
  obtain ⟨c, A, r⟩ := A; obtain ⟨c', q1, q2⟩ := q; cases A.1.symm.trans q1; exact Sto.of A (q2 ▸ O) I
end Arys
theorem acmp_eq_t {a b : Addr} (h : a = b) : XT.acmp .eq (.ref a) (.ref b) = true := by subst h; simp [XT.acmp]
theorem acmp_eq_f {a b : Addr} (h : ¬ a = b) : XT.acmp .eq (.ref a) (.ref b) = false := by simp [XT.acmp, h]
theorem acmp_ne_t {a b : Addr} (h : ¬ a = b) : XT.acmp .ne (.ref a) (.ref b) = true := by simp [XT.acmp, h]
theorem acmp_ne_f {a b : Addr} (h : a = b) : XT.acmp .ne (.ref a) (.ref b) = false := by subst h; simp [XT.acmp]
/-- j names the place i -/
def Ix (j : Int32) (i : Nat) : Prop := ¬ j < 0 ∧ j.toNatClampNeg = i
theorem Ix.in {j : Int32} {i n : Nat} {c : Cell} (q : Ix j i) (S : c.slots.size = n) (hi : i < n) : ¬ (j < 0 ∨ c.slots.size ≤ j.toNatClampNeg) := fun o => o.elim q.1 fun o => by rw [S, q.2] at o; omega
theorem Ix.of {j : Int32} {i : Nat} (q : j.toInt = i) : Ix j i := by
  have h0 : ¬ j < 0 := by rw [Int32.lt_iff_toInt_lt, show (0 : Int32).toInt = 0 from by decide]; omega
  refine ⟨h0, ?_⟩
  have := nat_of h0; omega
theorem Ix.int {j : Int32} {i : Nat} (q : Ix j i) : j.toInt = i := by have := nat_of q.1; rw [q.2] at this; exact this
section Steps
variable {p : Program} {l : Launch} {e : Env} {R : Room} {s : State} {m : MethodId} {args : Array Value} {below : List Frame} {meth : Method} {c : Code} {T : State} {locs : List Loc} {cells slots : Nat} {Fe : Outcome → State → List Loc → Prop} {Q : Option Value → Heap → List Loc → Prop} {cl sl : Nat} {pc q : Nat} {Ls : Array Slot} {rest : List Value}
variable {Z : State} {a0 : Array Value} {h : Heap}
theorem k_arB (X : Stand p l e R s m args below meth c T locs cells slots) (hx : p.tables.exec = Jvm.exec) (hZ : Z.Warmed39 s.vm) (eT : T.heap = h) {a : Addr} {n : Nat} {v : Nat → Value} {j : Int32} {x : Value} (i : Nat) (hq : pc + 1 = q) (hd : decode c.code pc = .ok (.baload, 1)) (A : Ary Z h a .byte n v) (hj : Ix j i) (hi : i < n) (hv : v i = x) (k : EndG p e below Fe Q (T.setTop (mkF m q Ls (x :: rest)))) : EndG p e below Fe Q (T.setTop (mkF m pc Ls (.int j :: .ref a :: rest))) := by
  obtain ⟨ce, A, S, B, H⟩ := A
  subst hq hv; exact k.st fun t w => X.baloadBytes hx (j := j) (v := v i) (by rw [eT]; exact A.1) (State.isArrayOf_alike hZ.alike A.2.1) A.2.2 (hj.in S hi) (by rw [hj.2]; exact H i hi) (g := (mkF m pc Ls (.int j :: .ref a :: rest))) rfl rfl hd t w
theorem k_arC (X : Stand p l e R s m args below meth c T locs cells slots) (hx : p.tables.exec = Jvm.exec) (hZ : Z.Warmed39 s.vm) (eT : T.heap = h) {a : Addr} {n : Nat} {v : Nat → Value} {j : Int32} {x : Value} (i : Nat) (hq : pc + 1 = q) (hd : decode c.code pc = .ok (.caload, 1)) (A : Ary Z h a .char n v) (hj : Ix j i) (hi : i < n) (hv : v i = x) (k : EndG p e below Fe Q (T.setTop (mkF m q Ls (x :: rest)))) : EndG p e below Fe Q (T.setTop (mkF m pc Ls (.int j :: .ref a :: rest))) := by
  obtain ⟨ce, A, S, B, H⟩ := A
  subst hq hv; exact k.st fun t w => X.caload hx (j := j) (v := v i) (by rw [eT]; exact A.1) (State.isArrayOf_alike hZ.alike A.2.1) A.2.2 (hj.in S hi) (by rw [hj.2]; exact H i hi) (g := (mkF m pc Ls (.int j :: .ref a :: rest))) rfl rfl hd t w
theorem k_asB (X : Stand p l e R s m args below meth c T locs cells slots) (hx : p.tables.exec = Jvm.exec) (hZ : Z.Warmed39 s.vm) (eT : T.heap = h) {a : Addr} {n : Nat} {v : Nat → Value} {j : Int32} {x : Int32} (i : Nat) (hq : pc + 1 = q) (hd : decode c.code pc = .ok (.bastore, 1)) (A : Ary Z h a .byte n v) (hj : Ix j i) (hi : i < n) (k : ∀ T' h', Stand p l e R s m args below meth c T' (locs ++ [⟨a, i⟩]) cells slots → T'.heap = h' → Wr h h' a i (.int (nar .byte x)) → Ary Z h' a .byte n (fun t => if t = i then (.int (nar .byte x)) else v t) → EndG p e below Fe Q (T'.setTop (mkF m q Ls (rest)))) : EndG p e below Fe Q (T.setTop (mkF m pc Ls (.int x :: .int j :: .ref a :: rest))) := by
  have A0 := A
  obtain ⟨ce, A, S, B, H⟩ := A
  subst hq; obtain ⟨T', h', X', e', W', st⟩ := stB X hx hZ eT A (hj.in S hi) (g := (mkF m pc Ls (.int x :: .int j :: .ref a :: rest))) rfl rfl hd
  rw [hj.2] at X' W'
  exact (k T' h' X' e' W' (A0.same W')).st st
theorem k_asC (X : Stand p l e R s m args below meth c T locs cells slots) (hx : p.tables.exec = Jvm.exec) (hZ : Z.Warmed39 s.vm) (eT : T.heap = h) {a : Addr} {n : Nat} {v : Nat → Value} {j : Int32} {x : Int32} (i : Nat) (hq : pc + 1 = q) (hd : decode c.code pc = .ok (.castore, 1)) (A : Ary Z h a .char n v) (hj : Ix j i) (hi : i < n) (k : ∀ T' h', Stand p l e R s m args below meth c T' (locs ++ [⟨a, i⟩]) cells slots → T'.heap = h' → Wr h h' a i (.int (nar .char x)) → Ary Z h' a .char n (fun t => if t = i then (.int (nar .char x)) else v t) → EndG p e below Fe Q (T'.setTop (mkF m q Ls (rest)))) : EndG p e below Fe Q (T.setTop (mkF m pc Ls (.int x :: .int j :: .ref a :: rest))) := by
  have A0 := A
  obtain ⟨ce, A, S, B, H⟩ := A
  subst hq; obtain ⟨T', h', X', e', W', st⟩ := stC X hx hZ eT A (hj.in S hi) (g := (mkF m pc Ls (.int x :: .int j :: .ref a :: rest))) rfl rfl hd
  rw [hj.2] at X' W'
  exact (k T' h' X' e' W' (A0.same W')).st st
theorem k_al (X : Stand p l e R s m args below meth c T locs cells slots) (hx : p.tables.exec = Jvm.exec) (hZ : Z.Warmed39 s.vm) (eT : T.heap = h) {a : Addr} {ty : FieldType} {n : Nat} {v : Nat → Value} {z : Int32} (hq : pc + 1 = q) (hd : decode c.code pc = .ok (.arraylength, 1)) (A : Ary Z h a ty n v) (hz : n.toInt32 = z) (k : EndG p e below Fe Q (T.setTop (mkF m q Ls (.int z :: rest)))) : EndG p e below Fe Q (T.setTop (mkF m pc Ls (.ref a :: rest))) := by
  obtain ⟨ce, A, S, B, H⟩ := A
  subst hq hz; exact k.st fun t w => X.arraylength hx (by rw [eT]; exact A.1) (State.isArrayOf_alike hZ.alike A.2.1) (g := (mkF m pc Ls (.ref a :: rest))) rfl rfl hd t (by rw [S]; exact w)
theorem k_callS (X : Stand p l e R s m args below meth c T locs cells slots) (hx : p.tables.exec = Jvm.exec) (hZ : Z.Warmed39 s.vm) {own : String} {index : Nat} {y : MethodName} {bytes : ByteArray} {maxL : Nat} {ret : Option FieldType} {rm : Room} {as : List Value} {Qc : Option Value → Heap → List Loc → Prop} (hown : s.vm.findClass own = some m.cls) (w1 : (Cond.methodLink own index y).before a0 Z = true) (w2 : (Cond.static y).before a0 Z = true) (w3 : (Cond.initialized y.cls).before a0 Z = true) (w4 : (Cond.code y bytes maxL ret).before a0 Z = true) (hy : y.cls ≠ "java/lang/invoke/MethodHandle" ∧ y.cls ≠ "java/lang/invoke/VarHandle") (W : Nat) (eT : T.heap = h) (hM : Con l Z y bytes maxL ret [] rm (as).toArray h Qc) (hf : rm.frames + 1 ≤ R.frames) (hl : W + (maxL + 11) + rm.locals ≤ R.locals) (hcl : cells + rm.cells ≤ R.cells) (hsl : slots + rm.slots ≤ R.slots) (hls : Ls.size = c.maxLocals) {ps : List FieldType} {rt : Option FieldType} (hpd : parseMethodDescriptor y.desc = some ⟨ps, rt⟩) (hlen : as.length = ps.length) (hW : 2 * 0 + (rest.map fun v => v.category).sum ≤ W) (hq : pc + 3 = q) (hd : decode c.code pc = .ok (.invokestatic index, 3)) (k : ∀ v T' L, Stand p l e R s m args below meth c T' (locs ++ L) (cells + rm.cells) (slots + rm.slots) → Qc v T'.heap L → EndG p e below Fe Q (T'.setTop (mkF m q Ls (v.toList ++ rest)))) : EndG p e below Fe Q (T.setTop (mkF m pc Ls (as.reverse ++ rest))) := by
  subst hq
  obtain ⟨v, _, ⟨T', L', k', n'⟩, -, X', ⟨Lc, hQ, l', y', z'⟩, st⟩ := Jvm.LawKit.callS X hx (y := y) hown (mvT hZ w1) (mvT hZ w2) (mvT hZ w3) (mvT hZ w4) hy (backOf (W := W) hM hZ w4 w3 hf hl) (g := (mkF m pc Ls (as.reverse ++ rest))) rfl hls (argsL := as) (rest := rest) (lenOf hpd hlen) rfl hW hd (fun _ _ => ⟨rfl, eT, hcl, hsl⟩)
  dsimp only [Pt.U, Pt.locs, Pt.cells, Pt.slots] at X' l' y' z' st hQ
  subst l' y' z'
  exact (k v T' Lc X' hQ).st st
theorem k_callI (X : Stand p l e R s m args below meth c T locs cells slots) (hx : p.tables.exec = Jvm.exec) (hZ : Z.Warmed39 s.vm) {own : String} {index : Nat} {y : MethodName} {bytes : ByteArray} {maxL : Nat} {rm : Room} {as : List Value} {Qc : Option Value → Heap → List Loc → Prop} {a : Addr} (hown : s.vm.findClass own = some m.cls) (hy1 : y.name = "<init>") (w1 : (Cond.methodLink own index y).before a0 Z = true) (w2 : (Cond.instanceMethod y).before a0 Z = true) (w3 : (Cond.initialized y.cls).before a0 Z = true) (w4 : (Cond.code y bytes maxL none).before a0 Z = true) (hy : y.cls ≠ "java/lang/invoke/MethodHandle" ∧ y.cls ≠ "java/lang/invoke/VarHandle") (W : Nat) (eT : T.heap = h) (hM : Con l Z y bytes maxL none [] rm (.ref a :: as).toArray h Qc) (hf : rm.frames + 1 ≤ R.frames) (hl : W + (maxL + 11) + rm.locals ≤ R.locals) (hcl : cells + rm.cells ≤ R.cells) (hsl : slots + rm.slots ≤ R.slots) (hls : Ls.size = c.maxLocals) {ps : List FieldType} {rt : Option FieldType} (hpd : parseMethodDescriptor y.desc = some ⟨ps, rt⟩) (hlen : as.length = ps.length) (hW : 2 * 0 + (rest.map fun v => v.category).sum ≤ W) (hq : pc + 3 = q) (hd : decode c.code pc = .ok (.invokespecial index, 3)) (k : ∀ v T' L, Stand p l e R s m args below meth c T' (locs ++ L) (cells + rm.cells) (slots + rm.slots) → Qc v T'.heap L → EndG p e below Fe Q (T'.setTop (mkF m q Ls (v.toList ++ rest)))) : EndG p e below Fe Q (T.setTop (mkF m pc Ls (as.reverse ++ .ref a :: rest))) := by
  subst hq
  obtain ⟨v, _, ⟨T', L', k', n'⟩, -, X', ⟨Lc, hQ, l', y', z'⟩, st⟩ := X.specialBack hx (y := y) hy1 hown (mvT hZ w1) (mvT hZ w2) (mvT hZ w4) hy (backOf (W := W) hM hZ w4 w3 hf hl) (g := (mkF m pc Ls (as.reverse ++ .ref a :: rest))) rfl hls (Steps.refl _) (a := a) (argsL := as) (rest := rest) (lenOf hpd hlen) rfl hW hd (fun _ _ => ⟨rfl, eT, hcl, hsl⟩)
  dsimp only [Pt.U, Pt.locs, Pt.cells, Pt.slots] at X' l' y' z' st hQ
  subst l' y' z'
  exact (k v T' Lc X' hQ).tr st
theorem k_callV (X : Stand p l e R s m args below meth c T locs cells slots) (hx : p.tables.exec = Jvm.exec) (hZ : Z.Warmed39 s.vm) {own : String} {index : Nat} {y : MethodName} {bytes : ByteArray} {maxL : Nat} {ret : Option FieldType} {rm : Room} {as : List Value} {Qc : Option Value → Heap → List Loc → Prop} {a : Addr} {C : String} {z : MethodName} (hown : s.vm.findClass own = some m.cls) (w1 : (Cond.methodLink own index y).before a0 Z = true) (w2 : (Cond.declares y).before a0 Z = true) (hnf : NotFace s y) (w3 : (Cond.selects C y z).before a0 Z = true) (w4 : (Cond.instanceMethod z).before a0 Z = true) (w5 : (Cond.code z bytes maxL ret).before a0 Z = true) (w6 : (Cond.initialized z.cls).before a0 Z = true) (hy : y.cls ≠ "java/lang/invoke/MethodHandle" ∧ y.cls ≠ "java/lang/invoke/VarHandle") (Ex : Exa Z h a C) (W : Nat) (eT : T.heap = h) (hM : Con l Z z bytes maxL ret [] rm (.ref a :: as).toArray h Qc) (hf : rm.frames + 1 ≤ R.frames) (hl : W + (maxL + 11) + rm.locals ≤ R.locals) (hcl : cells + rm.cells ≤ R.cells) (hsl : slots + rm.slots ≤ R.slots) (hls : Ls.size = c.maxLocals) {ps : List FieldType} {rt : Option FieldType} (hpd : parseMethodDescriptor y.desc = some ⟨ps, rt⟩) (hlen : as.length = ps.length) (hW : 2 * 0 + (rest.map fun v => v.category).sum ≤ W) (hq : pc + 3 = q) (hd : decode c.code pc = .ok (.invokevirtual index, 3)) (k : ∀ v T' L, Stand p l e R s m args below meth c T' (locs ++ L) (cells + rm.cells) (slots + rm.slots) → Qc v T'.heap L → EndG p e below Fe Q (T'.setTop (mkF m q Ls (v.toList ++ rest)))) : EndG p e below Fe Q (T.setTop (mkF m pc Ls (as.reverse ++ .ref a :: rest))) := by
  subst hq
  obtain ⟨cB, kB, q1, q2, q3⟩ := isOf hZ eT Ex
  obtain ⟨v, _, ⟨T', L', k', n'⟩, -, X', ⟨Lc, hQ, l', y', z'⟩, st⟩ := X.virtualBack hx (y := y) (z := z) hown (mvT hZ w1) (mvT hZ w2) hnf (mvT hZ w3) (mvT hZ w4) hy (backOf (W := W) hM hZ w5 w6 hf hl) q1 q3 (g := (mkF m pc Ls (as.reverse ++ .ref a :: rest))) rfl hls (Steps.refl _) (argsL := as) (rest := rest) (lenOf hpd hlen) rfl hW hd (fun _ _ => ⟨rfl, eT, hcl, hsl⟩)
  dsimp only [Pt.U, Pt.locs, Pt.cells, Pt.slots] at X' l' y' z' st hQ
  subst l' y' z'
  exact (k v T' Lc X' hQ).tr st
end Steps
end Jvm.OwnK
namespace Jvm.OwnK
open Sem ClassFile Op Lib Jvm.Stand Jvm.Free Jvm.LawKit Jvm.RoadKit
section Copy
variable {p : Program} {l : Launch} {e : Env} {R : Room} {s : State} {m : MethodId} {args : Array Value} {below : List Frame} {meth : Method} {c : Code} {T : State} {locs : List Loc} {cells slots : Nat} {Fe : Outcome → State → List Loc → Prop} {Q : Option Value → Heap → List Loc → Prop} {pc q : Nat} {Ls : Array Slot} {rest : List Value} {Z : State} {a0 : Array Value} {h h' : Heap}
theorem toNat32 {n : Nat} (h : n < 2 ^ 31) : n.toInt32.toNatClampNeg = n ∧ ¬ n.toInt32 < 0 := (fun q => ⟨q.2, q.1⟩) (Ix.of (len_toInt h))
theorem range_getD (v : Nat → Value) (d : Value) {n t : Nat} (h : t < n) : ((List.range n).map v).getD t d = v t := by
  simp [List.getD_eq_getElem?_getD, h]
theorem Ary.arv {a : Addr} {ty : FieldType} {n : Nat} {v : Nat → Value} (F : Ary Z h a ty n v) (G : ∀ t, t < n → fits ty (v t) = true) (d : Value) : ∃ k, Arv Z h a k ty n.toInt32 ((List.range n).map v) d := by
  obtain ⟨c, A, S, B, H⟩ := F
  refine ⟨c.cls, c, A, rfl, by rw [S, (toNat32 B).1], (toNat32 B).2, fun t ht => ?_, fun t ht => ?_⟩
  · rw [S] at ht; rw [range_getD v d ht]; exact H t ht
  · rw [S] at ht; rw [range_getD v d ht]; exact G t ht
theorem Ary.ofArv {a : Addr} {k : ClassId} {ty : FieldType} {z : Int32} {vs : List Value} {d : Value} {n : Nat} (F : Arv Z h a k ty z vs d) (q : Ix z n) : Ary Z h a ty n (fun t => vs.getD t d) := by
  obtain ⟨c, A, -, S, -, H, -⟩ := F
  refine ⟨c, A, by rw [S, q.2], ?_, fun t ht => H t (by rw [S, q.2]; exact ht)⟩
  have e := q.int
  have b := (rng32 z).2
  omega
theorem Ary.small {a : Addr} {ty : FieldType} {n : Nat} {v : Nat → Value} (F : Ary Z h a ty n v) : n < 2 ^ 31 := by obtain ⟨c, A, S, B, H⟩ := F; exact B
theorem spliced (v v' : Nat → Value) (d : Value) {i n n' t : Nat} (h1 : i ≤ n) (h2 : i ≤ n') (ht : t < n') :
    (((List.range n').map v').take 0 ++ ((List.range i).map fun j => ((List.range n).map v).getD (0 + j) d) ++ ((List.range n').map v').drop (0 + i)).getD t d = if t < i then v t else v' t := by
  have e0 : ((List.range n').map v').take 0 = [] := rfl
  rw [e0, List.nil_append, List.getD_eq_getElem?_getD]
  by_cases q : t < i
  · rw [if_pos q, List.getElem?_append_left (by simp; exact q), List.getElem?_map, List.getElem?_range q]
    show ((List.range n).map v).getD (0 + t) d = v t
    rw [Nat.zero_add]; exact range_getD v d (by omega)
  · rw [if_neg q, List.getElem?_append_right (by simp; omega), List.getElem?_drop]
    simp only [List.length_map, List.length_range]
    have : 0 + i + (t - i) = t := by omega
    rw [this, List.getElem?_map, List.getElem?_range ht]; rfl
theorem k_copy (X : Stand p l e R s m args below meth c T locs cells slots) (hx : p.tables.exec = Jvm.exec) (hZ : Z.Warmed39 s.vm) {own : String} {index : Nat} (hown : s.vm.findClass own = some m.cls)
    (w1 : (Cond.methodLink own index Jvm.Stand.acN).before a0 Z = true) (w2 : (Cond.native Jvm.Stand.acN).before a0 Z = true) (w3 : (Cond.static Jvm.Stand.acN).before a0 Z = true) (w4 : (Cond.initialized "java/lang/System").before a0 Z = true) (eT : T.heap = h)
    {a b : Addr} {ty : FieldType} {n n' : Nat} {v v' : Nat → Value} (hty : refKind ty = false) {nn : Int32} (i : Nat) (A : Ary Z h a ty n v) (B : Ary Z h b ty n' v') (GA : ∀ t, t < n → fits ty (v t) = true) (GB : ∀ t, t < n' → fits ty (v' t) = true) (hi : Ix nn i) (h1 : i ≤ n) (h2 : i ≤ n') {n0 : Nat} (N : Fr n0 locs) (ge : n0 ≤ b)
    (hq : pc + 3 = q) (hd : decode c.code pc = .ok (.invokestatic index, 3)) (hls : Ls.size = c.maxLocals) (hf : 1 ≤ R.frames) (W : Nat) (hW : 2 * 0 + (rest.map fun v => v.category).sum ≤ W) (hlo : W + (nativeFrameWords "java/lang/System" "arraycopy" 5 + 11) ≤ R.locals)
    (k : ∀ T' h' L, Stand p l e R s m args below meth c T' L cells slots → T'.heap = h' → Fr n0 L → Keep h h' [b] → Ary Z h' b ty n' (fun t => if t < i then v t else v' t) → EndG p e below Fe Q (T'.setTop (mkF m q Ls rest))) :
    EndG p e below Fe Q (T.setTop (mkF m pc Ls (.int nn :: .int 0 :: .ref b :: .int 0 :: .ref a :: rest))) := by
  subst hq
  obtain ⟨k1, A1⟩ := A.arv GA (.int 0)
  obtain ⟨k2, B1⟩ := B.arv GB (.int 0)
  have z0 : (0 : Int32).toNatClampNeg = 0 := by decide
  obtain ⟨T', h', L, X', e', N', K', V', st⟩ := cpA X hx hZ hown w1 w2 w3 w4 eT A1 B1 (Or.inl ⟨rfl, hty⟩) (sp := 0) (dp := 0) (nn := nn) (by decide) (by decide) hi.1 (by rw [z0, hi.2, (toNat32 A.small).1]; omega) (by rw [z0, hi.2, (toNat32 B.small).1]; omega) rfl (by rw [z0, hi.2]; simp; omega) N ge (g := (mkF m pc Ls (.int nn :: .int 0 :: .ref b :: .int 0 :: .ref a :: rest))) rfl hls rfl hd hf (W := W) hW hlo
  rw [z0, hi.2] at V'
  refine (k T' h' L X' e' N' K' ?_).st st
  exact (Ary.ofArv V' (Ix.of (len_toInt B.small))).congr fun t ht => spliced v v' (.int 0) h1 h2 ht
theorem k_clone (X : Stand p l e R s m args below meth c T locs cells slots) (hx : p.tables.exec = Jvm.exec) (hZ : Z.Warmed39 s.vm) {own ad : String} {index : Nat} (hown : s.vm.findClass own = some m.cls)
    (w1 : (Cond.methodLink own index ⟨ad, "clone", "()Ljava/lang/Object;"⟩).before a0 Z = true) (w2 : (Cond.sameMethod ad "java/lang/Object" "clone" "()Ljava/lang/Object;").before a0 Z = true) (w3 : (Cond.native ⟨"java/lang/Object", "clone", "()Ljava/lang/Object;"⟩).before a0 Z = true)
    (w4 : (Cond.instanceMethod ⟨"java/lang/Object", "clone", "()Ljava/lang/Object;"⟩).before a0 Z = true) (w5 : (Cond.selects ad ⟨ad, "clone", "()Ljava/lang/Object;"⟩ ⟨"java/lang/Object", "clone", "()Ljava/lang/Object;"⟩).before a0 Z = true) (w6 : (Cond.castable ad "java/lang/Cloneable").before a0 Z = true)
    (eT : T.heap = h) {a : Addr} {ty : FieldType} {n : Nat} {v : Nat → Value} (A : Ary Z h a ty n v) (E : Exa Z h a ad) (G : ∀ t, t < n → fits ty (v t) = true) (hq : pc + 3 = q) (hd : decode c.code pc = .ok (.invokevirtual index, 3)) (hls : Ls.size = c.maxLocals)
    (hf : 1 ≤ R.frames) (W cap : Nat) (hW : 2 * 0 + (rest.map fun v => v.category).sum ≤ W) (hl : W + 14 ≤ R.locals) (hcap : n ≤ cap) (hc : cells + 1 ≤ R.cells) (hsl : slots + cap ≤ R.slots)
    (k : ∀ T' h' a', Stand p l e R s m args below meth c T' locs (cells + 1) (slots + cap) → T'.heap = h' → a' = h.size → Ext h h' → Ary Z h' a' ty n v → Exa Z h' a' ad → EndG p e below Fe Q (T'.setTop (mkF m q Ls (.ref a' :: rest)))) :
    EndG p e below Fe Q (T.setTop (mkF m pc Ls (.ref a :: rest))) := by
  subst hq
  obtain ⟨ce, A, S, B, H⟩ := A
  have FC : FitC Z ce := fitC_of A fun i hi v' hv => by rw [H i (S ▸ hi)] at hv; cases hv; exact G i (S ▸ hi)
  obtain ⟨T', h', X', e', E', A', Ex', st⟩ := cloneA X hx hZ hown w1 w2 w3 w4 w5 w6 eT A E FC (g := (mkF m pc Ls (.ref a :: rest))) rfl hls rfl hd hf (W := W) (cap := cap) hW hl (by rw [S]; exact hcap) hc hsl
  exact (k T' h' _ X' e' rfl E' ⟨_, A', S, B, H⟩ Ex').st st
theorem k_newE (X : Stand p l e R s m args below meth c T locs cells slots) (hx : p.tables.exec = Jvm.exec) (hZ : Z.Warmed39 s.vm) {aty : ArrayType} (w0 : (Cond.arrayClass (newarray.typeOf aty)).before a0 Z = true) (eT : T.heap = h) {n : Int32} (hq : pc + 2 = q) (hd : decode c.code pc = .ok (.newarray aty, 2)) (hn : ¬ n < 0) {cap : Nat} (hcap : n.toNatClampNeg ≤ cap) (hb : cap * 8 ≤ 536870912) (hc : cells + 1 ≤ R.cells) (hl : slots + cap ≤ R.slots) {ad : String} (had : "[" ++ (newarray.typeOf aty).toString = ad)
    (k : ∀ T' h' a cA, Stand p l e R s m args below meth c T' locs (cells + 1) (slots + cap) → T'.heap = h' → a = h.size → Ext h h' → Arr Z h' a (newA cA (newarray.typeOf aty) n) (newarray.typeOf aty) → Exa Z h' a ad → EndG p e below Fe Q (T'.setTop (mkF m q Ls (.ref a :: rest)))) :
    EndG p e below Fe Q (T.setTop (mkF m pc Ls (.int n :: rest))) := by
  subst hq; obtain ⟨T', h', cA, X', e', E', A', Ex', st⟩ := newPE X hx hZ w0 eT (g := (mkF m pc Ls (.int n :: rest))) rfl hd rfl hn hcap hb hc hl had
  exact (k T' h' _ cA X' e' rfl E' A' Ex').st st
end Copy
end Jvm.OwnK
namespace Jvm.OwnK
open Sem ClassFile Op Lib Bundle Jvm.Stand Jvm.Free Jvm.LawKit Jvm.RoadKit
/-- the walk's tables at hand: warmer than Z's; every held literal of EL says its text; what was booked since the start is new -/
def Wd (Z : State) (a0 : Array Value) (s : State) (EL : List (String × Nat)) (vm0 : Vm) (h : Heap) : Prop := Z.Warmed39 vm0 ∧ EW Z a0 EL ∧ CHr Z EL s.vm s.heap vm0 h ∧ ∃ k0, s.Since vm0 k0 ∧ k0 ≤ h.size
abbrev EndW (p : Program) (e : Env) (below : List Frame) (s Z : State) (EL : List (String × Nat)) (Q : Option Value → Heap → List Loc → Prop) (cl sl : Nat) (cur : State) : Prop := EndG p e below (fun o t L => CHr Z EL s.vm s.heap t.vm t.heap ∧ ReturnedEndW s o t L cl sl) Q cur
def ConW (l : Launch) (Z : State) (EL : List (String × Nat)) (y : MethodName) (bytes : ByteArray) (maxL : Nat) (ret : Option FieldType) (ws : List Cond) (rm : Room) (as : Array Value) (h : Heap) (Q : Option Value → Heap → List Loc → Prop) : Prop :=
  MetFree l y (head1 (Cond.code y bytes maxL ret :: ws) rm) (fun a U => a = as ∧ Z.Warmed39 U.vm ∧ U.heap = h ∧ CHv Z EL U.vm h) (fun _ _ _ _ _ => True) (fun _ U o U' => ∃ v L, o = .returned v ∧ Q v U'.heap L ∧ CHr Z EL U.vm U.heap U'.vm U'.heap ∧ ReturnedEndW U o U' L rm.cells rm.slots)
section Wide
variable {p : Program} {l : Launch} {e : Env} {R : Room} {s : State} {m : MethodId} {args : Array Value} {below : List Frame} {meth : Method} {c : Code} {T : State} {locs : List Loc} {cells slots : Nat} {Fe : Outcome → State → List Loc → Prop} {Q : Option Value → Heap → List Loc → Prop} {cl sl : Nat} {pc q : Nat} {Ls : Array Slot} {rest : List Value} {Z : State} {a0 : Array Value} {h h' : Heap} {vm0 : Vm} {EL : List (String × Nat)}
theorem ConW.of {y : MethodName} {bytes : ByteArray} {maxL : Nat} {ret : Option FieldType} {ws : List Cond} {rm : Room} {as : Array Value} (hpl : plainFor y = true) (hE : EW Z a0 EL)
    (body : ∀ (p : Program) (e : Env) (s : State) (m : MethodId) (below : List Frame) (meth : Method) (c : Code) (s₁ : State) (vm0 : Vm), Stand p l e rm (s.setVm vm0) m as below meth c s₁ [] 0 0 → p.tables.exec = Jvm.exec → c.code = bytes → c.maxLocals = maxL → (s.setVm vm0).vm.findClass y.cls = some m.cls → meth.name = y.name → meth.sig.returnType = ret → meth.locks = false → Z.Warmed39 (s.setVm vm0).vm → s₁.heap = h → Wd Z a0 s EL vm0 h → EndW p e below s Z EL Q rm.cells rm.slots (s₁.setTop (entryFrame m as maxL))) :
    ConW l Z EL y bytes maxL ret ws rm as h Q := by
  refine MetFree.of_bodySF hpl hisR ?_
  intro p e s m args below meth c s₁ Bd hml hP hK
  obtain ⟨rfl, hZ, hh, hC⟩ := hP
  have X : Stand p l e rm s m args below meth c s₁ [] 0 0 := Stand.of_body Bd
  obtain ⟨s₂, o, h1, h2, h3, v, L, h4, h5, h6, h7⟩ := body p e s m below meth c s₁ s.vm X Bd.exec Bd.bytes hml (findClass_of_methodNamed Bd.named) (name_of_methodNamed Bd.named Bd.method).1 Bd.returns Bd.notSynchronized hZ (by rw [← hh, Bd.state]; rfl) ⟨hZ, hE, by rw [hh]; exact CHr.refl hC, 0, (State.WarmedH.refl s).since 0, Nat.zero_le _⟩
  exact ⟨s₂, o, h1, h2, h3, v, L, h4, h5, h6, h7⟩
theorem Wd.keep {ws : List Addr} (H : Wd Z a0 s EL vm0 h) (K : Keep h h' ws) (hs : ∀ x ∈ ws, Safe Z EL vm0 h x) : Wd Z a0 s EL vm0 h' := by
  obtain ⟨h1, h2, h3, k0, h4, h5⟩ := H
  exact ⟨h1, h2, h3.trans (CHr.keep K hs h3.1), k0, h4, Nat.le_trans h5 K.1⟩
theorem no_safe {P : Addr → Prop} : ∀ x ∈ ([] : List Addr), P x := fun x hx => by cases hx
theorem one_safe {P : Addr → Prop} {a : Addr} (h : P a) : ∀ x ∈ [a], P x := fun x hx => by cases List.mem_singleton.mp hx; exact h
/-- a String whose value is null is no literal of EL -/
theorem Safe.null {x : Addr} {nI : Nat} (hal : Z.vm.Alike vm0) (w : (Cond.instantiable "java/lang/String" nI).before a0 Z = true) (E : Exa Z h x "java/lang/String") (F : Fld Z h x "java/lang/String" "value" "[B" .null) : Safe Z EL vm0 h x := fun B => by
  obtain ⟨p, hp, u, a, hb, q, hq, ⟨cS, ⟨⟨s1, s2, s3, ⟨cv, kv, iv, s4, s4'⟩, -, s6, s7, s8, s9, s10, s11, s12, -⟩, hfS, hcS⟩, -⟩, hy⟩ := B
  rcases hy with rfl | rfl
  · obtain ⟨kv', z4⟩ := ff_back (U := Wst Z vm0 h) hal s4
    have G : Fld Z h q.sa "java/lang/String" "value" "[B" (.ref q.sd) := ⟨q.sC, cv, kv', iv, q.fSV, s1, z4, s6, s2, s3, by rw [← hal.assignable]; exact s4', s8⟩
    exact Fld.ne F G (by intro z; cases z) rfl
  · obtain ⟨cell, k, e1, e2, e3, e4, e5⟩ := E
    cases e1.symm.trans s10
    obtain ⟨-, k9, hk9, comp, hkind9⟩ := s11
    have hk9 : vm0.classes[q.SA.cls]? = some k9 := hk9
    obtain ⟨k', hk', ek⟩ := hal.2.2 _ _ e3
    cases hk9.symm.trans hk'
    have z := hkind9
    rw [ek] at z
    dsimp only at z
    obtain ⟨cI, kI, hcI, hkI, hord, -, -, -⟩ := Cond.instantiable_spec w
    cases e2.symm.trans hcI
    cases e3.symm.trans hkI
    rw [hord] at z
    cases z
theorem kw_retN (X : Stand p l e R (s.setVm vm0) m args below meth c T locs cells slots) (hx : p.tables.exec = Jvm.exec) {z : Int32} {t : FieldType} (hW : Wd Z a0 s EL vm0 T.heap) (hlk : meth.locks = false) (hcl : cells ≤ cl) (hsl : slots ≤ sl) (hret : meth.sig.returnType = some t) (ht : t = .boolean ∨ t = .byte ∨ t = .char ∨ t = .short) (hd : decode c.code pc = .ok (.ireturn, 1)) (hQ : Q (some (.int (nar t z))) T.heap locs) : EndW p e below s Z EL Q cl sl (T.setTop (mkF m pc Ls (.int z :: rest))) := by
  obtain ⟨hZ, hE, C, k0, hS, hk⟩ := hW
  obtain ⟨fs, hr, hrun, hended, h1, h2, h3, h4⟩ := X.leaveW hS hk (v := (some (.int (nar t z)))) (fun h => by rw [hret] at h; cases h) hlk
  have hC : CHr Z EL s.vm s.heap T.vm T.heap := C.trans (CHv.at X hZ hE C.1)
  refine ⟨_, _, ?_, hrun, hended, _, _, rfl, hQ, hC, h1, h2, h3, h4.mono hcl hsl⟩
  exact retN X hx hret ht hd hr
theorem kw_retA (X : Stand p l e R (s.setVm vm0) m args below meth c T locs cells slots) (hx : p.tables.exec = Jvm.exec) {z : Value} {t : FieldType} (hW : Wd Z a0 s EL vm0 T.heap) (hlk : meth.locks = false) (hcl : cells ≤ cl) (hsl : slots ≤ sl) (hret : meth.sig.returnType = some t) (ht : t.isReference = true) (hz : z.isRef = true) (hd : decode c.code pc = .ok (.areturn, 1)) (hQ : Q (some z) T.heap locs) : EndW p e below s Z EL Q cl sl (T.setTop (mkF m pc Ls (z :: rest))) := by
  obtain ⟨hZ, hE, C, k0, hS, hk⟩ := hW
  obtain ⟨fs, hr, hrun, hended, h1, h2, h3, h4⟩ := X.leaveW hS hk (v := (some z)) (fun h => by rw [hret] at h; cases h) hlk
  have hC : CHr Z EL s.vm s.heap T.vm T.heap := C.trans (CHv.at X hZ hE C.1)
  refine ⟨_, _, ?_, hrun, hended, _, _, rfl, hQ, hC, h1, h2, h3, h4.mono hcl hsl⟩
  exact retOut X hx hret (by cases t <;> first | rfl | (simp [FieldType.isReference] at ht)) (Or.inr (Or.inr (Or.inr (Or.inr ⟨rfl, ht, hz⟩)))) hd hr
theorem kw_retV (X : Stand p l e R (s.setVm vm0) m args below meth c T locs cells slots) (hx : p.tables.exec = Jvm.exec)  (hW : Wd Z a0 s EL vm0 T.heap) (hlk : meth.locks = false) (hcl : cells ≤ cl) (hsl : slots ≤ sl) (hret : meth.sig.returnType = none) (hd : decode c.code pc = .ok (.return_, 1)) (hQ : Q none T.heap locs) : EndW p e below s Z EL Q cl sl (T.setTop (mkF m pc Ls ([]))) := by
  obtain ⟨hZ, hE, C, k0, hS, hk⟩ := hW
  obtain ⟨fs, hr, hrun, hended, h1, h2, h3, h4⟩ := X.leaveW hS hk (v := none) (fun _ => rfl) hlk
  have hC : CHr Z EL s.vm s.heap T.vm T.heap := C.trans (CHv.at X hZ hE C.1)
  refine ⟨_, _, ?_, hrun, hended, _, _, rfl, hQ, hC, h1, h2, h3, h4.mono hcl hsl⟩
  exact X.returnOut hx hret hd hr
theorem kw_ldc (X : Stand p l e R (s.setVm vm0) m args below meth c T locs cells slots) (hx : p.tables.exec = Jvm.exec) (hZ : Z.Warmed39 (s.setVm vm0).vm) {own text : String} {index : Nat} (hown : (s.setVm vm0).vm.findClass own = some m.cls) (w : (Cond.stringLink own index text).before a0 Z = true) (wS : ∀ a ∈ Bundle.stringAtoms, a.before a0 Z = true) (eT : T.heap = h) (hW : Wd Z a0 s EL vm0 h) (hmem : (own, index) ∈ EL)
    {vs : List Value} {z : Int32} (ht : (∀ c ∈ text.toList, c.toNat < 256) ∧ text.toList.map (fun c => Value.int (Jvm.Lit.byteI c.toNat.toUInt16)) = vs) (hz : ¬ z < 0) (hl : z.toNatClampNeg = vs.length) (hq : pc + 2 = q) (hd : decode c.code pc = .ok (.ldc index, 2)) (n : Nat) (hn : 4 * text.toList.length ≤ n) (hbig : n ≤ 536870912) (hc : cells + 2 ≤ R.cells) (hl' : slots + (n + 4) ≤ R.slots)
    (k : ∀ a T' h' b kA, Stand p l e R (s.setVm T'.vm) m args below meth c T' locs (cells + 2) (slots + (n + 4)) → T'.heap = h' → Ext h h' → Z.Warmed39 (s.setVm T'.vm).vm → (s.setVm T'.vm).vm.findClass own = some m.cls → Wd Z a0 s EL T'.vm h' → Exa Z h' a "java/lang/String" → Fld Z h' a "java/lang/String" "coder" "B" (.int 0) → Fld Z h' a "java/lang/String" "value" "[B" (.ref b) → Arv Z h' b kA .byte z vs (.int 0) → CHr Z EL vm0 h T'.vm h' → Lit (s.setVm T'.vm) own index a → (∀ x, Safe Z EL T'.vm h' x → x ≠ a ∧ x ≠ b) → EndG p e below Fe Q (T'.setTop (mkF m q Ls (.ref a :: rest)))) :
    EndG p e below Fe Q (T.setTop (mkF m pc Ls rest)) := by
  subst hq
  obtain ⟨-, hE, C, k0, hS, hk⟩ := hW
  obtain ⟨a, T', h', k1, b, kA, X', e', E', hS', hk', hZ', hown', Ex, F1, F2, A, la, lb, hC, hL, hne, st⟩ := ldcCH X hx hZ hown w wS eT hS hk hE hmem C.1 ht hz hl (g := mkF m pc Ls rest) rfl hd hn hbig hc hl'
  exact (k a T' h' b kA X' e' E' hZ' hown' ⟨hZ', hE, C.trans hC, k1, hS', hk'⟩ Ex F1 F2 A hC hL hne).st st
theorem kw_again (X : Stand p l e R (s.setVm vm0) m args below meth c T locs cells slots) (hx : p.tables.exec = Jvm.exec) (hZ : Z.Warmed39 (s.setVm vm0).vm) {own text : String} {index : Nat} (hown : (s.setVm vm0).vm.findClass own = some m.cls) (w : (Cond.stringLink own index text).before a0 Z = true) {a : Addr} (hL : Lit (s.setVm vm0) own index a) (hq : pc + 2 = q) (hd : decode c.code pc = .ok (.ldc index, 2))
    (k : EndG p e below Fe Q (T.setTop (mkF m q Ls (.ref a :: rest)))) : EndG p e below Fe Q (T.setTop (mkF m pc Ls rest)) := by
  subst hq
  exact k.st (ldcAgain X hx hZ hown w hL (g := mkF m pc Ls rest) rfl hd)
theorem kw_callS (X : Stand p l e R (s.setVm vm0) m args below meth c T locs cells slots) (hx : p.tables.exec = Jvm.exec) (hZ : Z.Warmed39 (s.setVm vm0).vm) {own : String} {index : Nat} {y : MethodName} {bytes : ByteArray} {maxL : Nat} {ret : Option FieldType} {rm : Room} {as : List Value} {Qc : Option Value → Heap → List Loc → Prop} (hown : (s.setVm vm0).vm.findClass own = some m.cls) (w1 : (Cond.methodLink own index y).before a0 Z = true) (w2 : (Cond.static y).before a0 Z = true) (w3 : (Cond.initialized y.cls).before a0 Z = true) (w4 : (Cond.code y bytes maxL ret).before a0 Z = true) (hy : y.cls ≠ "java/lang/invoke/MethodHandle" ∧ y.cls ≠ "java/lang/invoke/VarHandle") (W : Nat) (eT : T.heap = h) (hW : Wd Z a0 s EL vm0 h)
    (hM : ConW l Z EL y bytes maxL ret [] rm as.toArray h Qc) (hf : rm.frames + 1 ≤ R.frames) (hl : W + (maxL + 11) + rm.locals ≤ R.locals) (hcl : cells + rm.cells ≤ R.cells) (hsl : slots + rm.slots ≤ R.slots) (hls : Ls.size = c.maxLocals) {ps : List FieldType} {rt : Option FieldType} (hpd : parseMethodDescriptor y.desc = some ⟨ps, rt⟩) (hlen : as.length = ps.length) (hW2 : 2 * 0 + (rest.map fun v => v.category).sum ≤ W) (hq : pc + 3 = q) (hd : decode c.code pc = .ok (.invokestatic index, 3))
    (k : ∀ v T' L, Stand p l e R (s.setVm T'.vm) m args below meth c T' (locs ++ L) (cells + rm.cells) (slots + rm.slots) → Z.Warmed39 (s.setVm T'.vm).vm → (s.setVm T'.vm).vm.findClass own = some m.cls → Wd Z a0 s EL T'.vm T'.heap → CHr Z EL vm0 h T'.vm T'.heap → Qc v T'.heap L → EndG p e below Fe Q (T'.setTop (mkF m q Ls (v.toList ++ rest)))) :
    EndG p e below Fe Q (T.setTop (mkF m pc Ls (as.reverse ++ rest))) := by
  subst hq
  obtain ⟨-, hE, C, k0, hS, hk⟩ := hW
  obtain ⟨v, _, ⟨T', L', k', n'⟩, -, X', hS', hgr, ⟨Lc, hQ, l', y', z', hC⟩, st⟩ := callSS X hx (y := y) hown (mvT hZ w1) (mvT hZ w2) (mvT hZ w3) (mvT hZ w4) hy (backOfSH (s := s) (W := W) hM hZ w4 w3 hf hl hE C.1) (g := mkF m pc Ls (as.reverse ++ rest)) rfl hls (argsL := as) (rest := rest) (lenOf hpd hlen) rfl hW2 hd (fun _ _ => ⟨rfl, eT, hcl, hsl⟩)
  dsimp only [Pt.U, Pt.locs, Pt.cells, Pt.slots] at X' l' y' z' st hQ hC hS' hgr
  subst l' y' z'
  have hZ' : Z.Warmed39 T'.vm := State.Warmed39.trans (t := s.setVm vm0) hZ hS'.1
  refine (k v T' Lc X' hZ' (by rw [show (s.setVm T'.vm).vm = T'.vm from rfl, hS'.1.alike.findClass]; exact hown) ⟨hZ', hE, C.trans hC, _, foldS (T := T) hS (by rw [eT]; exact hk) hS' hgr, Nat.le_refl _⟩ hC hQ).tr st
theorem kw_callI (X : Stand p l e R (s.setVm vm0) m args below meth c T locs cells slots) (hx : p.tables.exec = Jvm.exec) (hZ : Z.Warmed39 (s.setVm vm0).vm) {own : String} {index : Nat} {y : MethodName} {bytes : ByteArray} {maxL : Nat} {rm : Room} {as : List Value} {Qc : Option Value → Heap → List Loc → Prop} {a : Addr} (hown : (s.setVm vm0).vm.findClass own = some m.cls) (hy1 : y.name = "<init>") (w1 : (Cond.methodLink own index y).before a0 Z = true) (w2 : (Cond.instanceMethod y).before a0 Z = true) (w3 : (Cond.initialized y.cls).before a0 Z = true) (w4 : (Cond.code y bytes maxL none).before a0 Z = true) (hy : y.cls ≠ "java/lang/invoke/MethodHandle" ∧ y.cls ≠ "java/lang/invoke/VarHandle") (W : Nat) (eT : T.heap = h) (hW : Wd Z a0 s EL vm0 h)
    (hM : ConW l Z EL y bytes maxL none [] rm (.ref a :: as).toArray h Qc) (hf : rm.frames + 1 ≤ R.frames) (hl : W + (maxL + 11) + rm.locals ≤ R.locals) (hcl : cells + rm.cells ≤ R.cells) (hsl : slots + rm.slots ≤ R.slots) (hls : Ls.size = c.maxLocals) {ps : List FieldType} {rt : Option FieldType} (hpd : parseMethodDescriptor y.desc = some ⟨ps, rt⟩) (hlen : as.length = ps.length) (hW2 : 2 * 0 + (rest.map fun v => v.category).sum ≤ W) (hq : pc + 3 = q) (hd : decode c.code pc = .ok (.invokespecial index, 3))
    (k : ∀ v T' L, Stand p l e R (s.setVm T'.vm) m args below meth c T' (locs ++ L) (cells + rm.cells) (slots + rm.slots) → Z.Warmed39 (s.setVm T'.vm).vm → (s.setVm T'.vm).vm.findClass own = some m.cls → Wd Z a0 s EL T'.vm T'.heap → CHr Z EL vm0 h T'.vm T'.heap → Qc v T'.heap L → EndG p e below Fe Q (T'.setTop (mkF m q Ls (v.toList ++ rest)))) :
    EndG p e below Fe Q (T.setTop (mkF m pc Ls (as.reverse ++ .ref a :: rest))) := by
  subst hq
  obtain ⟨-, hE, C, k0, hS, hk⟩ := hW
  obtain ⟨v, _, ⟨T', L', k', n'⟩, -, X', hS', hgr, ⟨Lc, hQ, l', y', z', hC⟩, st⟩ := X.specialBackS hx (y := y) hy1 hown (mvT hZ w1) (mvT hZ w2) (mvT hZ w4) hy (backOfSH (s := s) (W := W) hM hZ w4 w3 hf hl hE C.1) (g := mkF m pc Ls (as.reverse ++ .ref a :: rest)) rfl hls (Steps.refl _) (a := a) (argsL := as) (rest := rest) (lenOf hpd hlen) rfl hW2 hd (fun _ _ => ⟨rfl, eT, hcl, hsl⟩)
  dsimp only [Pt.U, Pt.locs, Pt.cells, Pt.slots] at X' l' y' z' st hQ hC hS' hgr
  subst l' y' z'
  have hZ' : Z.Warmed39 T'.vm := State.Warmed39.trans (t := s.setVm vm0) hZ hS'.1
  refine (k v T' Lc X' hZ' (by rw [show (s.setVm T'.vm).vm = T'.vm from rfl, hS'.1.alike.findClass]; exact hown) ⟨hZ', hE, C.trans hC, _, foldS (T := T) hS (by rw [eT]; exact hk) hS' hgr, Nat.le_refl _⟩ hC hQ).tr st
end Wide
end Jvm.OwnK
namespace Jvm.Pilot.@@N@@
open Jvm Jvm.ClassFile Sem Op Lib Jvm.Free Jvm.Stand Jvm.LawKit Jvm.RoadKit Jvm.OwnK Bundle Jvm.Pilot.@@N@@.Jvm.D
theorem pn_0 : plainName "java/lang/StringUTF16" = true := by first | (simp [plainName, overriddenIn]; done) | decide +kernel
theorem pn_1 : plainName "java/lang/String" = true := by first | (simp [plainName, overriddenIn]; done) | decide +kernel
theorem pn_2 : plainName "java/lang/StringLatin1" = true := by first | (simp [plainName, overriddenIn]; done) | decide +kernel
theorem pn_3 : plainName "com/example/keyshelf/keyshelf/RuleResultBrokenPinLaw" = true := by first | (simp [plainName, overriddenIn]; done) | decide +kernel
theorem pn_4 : plainName "java/lang/Record" = true := by first | (simp [plainName, overriddenIn]; done) | decide +kernel
theorem pn_5 : plainName "com/example/keyshelf/keyshelf/RuleResult" = true := by first | (simp [plainName, overriddenIn]; done) | decide +kernel
theorem pd_0 : parseMethodDescriptor "([CI[BII)I" = some ⟨[(.array .char), .int, (.array .byte), .int, .int], some .int⟩ := by decide +kernel
theorem pd_1 : parseMethodDescriptor "([CII)[B" = some ⟨[(.array .char), .int, .int], some (.array .byte)⟩ := by decide +kernel
theorem pd_2 : parseMethodDescriptor "([BI)B" = some ⟨[(.array .byte), .int], some .byte⟩ := by decide +kernel
theorem pd_3 : parseMethodDescriptor "([CIILjava/lang/Void;)V" = some ⟨[(.array .char), .int, .int, (.object "java/lang/Void")], none⟩ := by decide +kernel
theorem pd_4 : parseMethodDescriptor "(C)Z" = some ⟨[.char], some .boolean⟩ := by decide +kernel
theorem pd_5 : parseMethodDescriptor "(C)[B" = some ⟨[.char], some (.array .byte)⟩ := by decide +kernel
theorem pd_6 : parseMethodDescriptor "([BB)V" = some ⟨[(.array .byte), .byte], none⟩ := by decide +kernel
theorem pd_7 : parseMethodDescriptor "([C)V" = some ⟨[(.array .char)], none⟩ := by decide +kernel
theorem pd_8 : parseMethodDescriptor "(C)Ljava/lang/String;" = some ⟨[.char], some (.object "java/lang/String")⟩ := by decide +kernel
theorem pd_9 : parseMethodDescriptor "()V" = some ⟨[], none⟩ := by decide +kernel
theorem pd_10 : parseMethodDescriptor "(Ljava/lang/String;Lcom/example/keyshelf/keyshelf/RuleResult$Outcome;Ljava/lang/String;)V" = some ⟨[(.object "java/lang/String"), (.object "com/example/keyshelf/keyshelf/RuleResult$Outcome"), (.object "java/lang/String")], none⟩ := by decide +kernel
theorem pd_11 : parseMethodDescriptor "([B[B)Z" = some ⟨[(.array .byte), (.array .byte)], some .boolean⟩ := by decide +kernel
theorem pd_12 : parseMethodDescriptor "(II)Ljava/lang/String;" = some ⟨[.int, .int], some (.object "java/lang/String")⟩ := by decide +kernel
theorem pd_13 : parseMethodDescriptor "(Ljava/lang/String;Ljava/lang/String;)Lcom/example/keyshelf/keyshelf/RuleResult;" = some ⟨[(.object "java/lang/String"), (.object "java/lang/String")], some (.object "com/example/keyshelf/keyshelf/RuleResult")⟩ := by decide +kernel
theorem pd_14 : parseMethodDescriptor "()Lcom/example/keyshelf/keyshelf/RuleResult$Outcome;" = some ⟨[], some (.object "com/example/keyshelf/keyshelf/RuleResult$Outcome")⟩ := by decide +kernel
theorem pd_15 : parseMethodDescriptor "()Ljava/lang/String;" = some ⟨[], some (.object "java/lang/String")⟩ := by decide +kernel
theorem pd_16 : parseMethodDescriptor "(Ljava/lang/Object;)Z" = some ⟨[(.object "java/lang/Object")], some .boolean⟩ := by decide +kernel
theorem os6_13_0 {z0 : Value} {z1 : Value} {z2 : Value} {z3 : Value} {z4 : Value} {z5 : Value} {u : Slot} {v : Int32} (h : One u) : storeLocals #[.val z0, .val z1, .val z2, .val z3, .val z4, .val z5, u] 6 (.int v) = some #[.val z0, .val z1, .val z2, .val z3, .val z4, .val z5, .val (.int v)] := by
  rcases h with rfl | ⟨w, rfl, hw⟩
  · rfl
  · cases w <;> first | rfl | (simp [Value.category] at hw)
theorem os6_13_1 {z0 : Value} {z1 : Value} {z2 : Value} {z3 : Value} {z4 : Value} {z5 : Value} {u : Slot} {v : Int32} (h : One u) : storeLocals #[.val z0, .val z1, .val z2, .val z3, .val z4, .val z5, u] 6 (.int v) = some #[.val z0, .val z1, .val z2, .val z3, .val z4, .val z5, .val (.int v)] := by
  rcases h with rfl | ⟨w, rfl, hw⟩
  · rfl
  · cases w <;> first | rfl | (simp [Value.category] at hw)
theorem own_z0 : (0 : Int32).toInt = 0 := by decide
theorem own_nat {k : Nat} (h : k < 2 ^ 31) : Ix k.toInt32 k := Ix.of (len_toInt h)
theorem own_is {j : Int32} {i : Nat} (h : Ix j i) : j = i.toInt32 := Int32.toInt_inj.mp (by
  have e := h.int
  have b := (rng32 j).2
  rw [len_toInt (by omega), e])
theorem own_up {x : Int32} {k : Nat} (q : Ix x k) (hk : k < 2147483000) : Ix (x + 1) (k + 1) := by
  apply Ix.of
  have e := c_iadd x 1
  have b := rng32 (x + 1)
  have i := q.int
  have e1 : (1 : Int32).toInt = 1 := by decide
  rw [e1] at e
  omega
theorem own_lt {j m : Int32} {k n : Nat} (q : Ix j k) (r : Ix m n) : j < m ↔ k < n := by
  have := q.int
  have := r.int
  rw [Int32.lt_iff_toInt_lt]; omega
theorem own_eqi {j m : Int32} {k n : Nat} (q : Ix j k) (r : Ix m n) : j = m ↔ k = n := by
  have := q.int
  have := r.int
  rw [← Int32.toInt_inj]; omega
theorem own_wS {Z : State} {a0 : Array Value} (hw : ∀ d ∈ tables_1, d.before a0 Z = true) : ∀ a ∈ Bundle.stringAtoms, a.before a0 Z = true := by
  intro a ha
  simp only [Bundle.stringAtoms, List.mem_cons, List.not_mem_nil, or_false] at ha
  rcases ha with rfl | rfl | rfl | rfl | rfl | rfl | rfl
  · exact (hw _ (List.mem_of_getElem? (i := 6) rfl))
  · exact (hw _ (List.mem_of_getElem? (i := 5) rfl))
  · exact (hw _ (List.mem_of_getElem? (i := 23) rfl))
  · exact (hw _ (List.mem_of_getElem? (i := 33) rfl))
  · exact (hw _ (List.mem_of_getElem? (i := 31) rfl))
  · exact (hw _ (List.mem_of_getElem? (i := 35) rfl))
  · exact (hw _ (List.mem_of_getElem? (i := 36) rfl))
theorem own_EL {Z : State} {a0 : Array Value} (hw : ∀ d ∈ tables_1, d.before a0 Z = true) : EW Z a0 consts_1 := (EW.cons (hw _ (List.mem_of_getElem? (i := 34) rfl)) (by decide) EW.nil)
def own_by (ch : Nat → Int32) (i : Nat) : Nat → Value := fun t => .int (if t < i then nar .byte (ch t).toInt8.toInt32 else 0)
theorem own_by_step (ch : Nat → Int32) (i n : Nat) : ∀ t, t < n → (if t = i then Value.int (nar .byte (ch i).toInt8.toInt32) else own_by ch i t) = own_by ch (i + 1) t := by
  intro t _
  unfold own_by
  by_cases q : t = i
  · subst q; rw [if_pos rfl, if_pos (by omega)]
  · rw [if_neg q]
    by_cases r : t < i
    · rw [if_pos r, if_pos (by omega)]
    · rw [if_neg r, if_neg (by omega)]
theorem d6_0 : decode jdk_52_method_21_code 0 = .ok (.iconst 0, 1) := by decide +kernel
theorem d6_1 : decode jdk_52_method_21_code 1 = .ok (.istore 5, 2) := by decide +kernel
theorem d6_3 : decode jdk_52_method_21_code 3 = .ok (.iload 5, 2) := by decide +kernel
theorem d6_5 : decode jdk_52_method_21_code 5 = .ok (.iload 4, 2) := by decide +kernel
theorem d6_7 : decode jdk_52_method_21_code 7 = .ok (.if_icmp .ge 37, 3) := by decide +kernel
theorem d6_10 : decode jdk_52_method_21_code 10 = .ok (.aload_n 0, 1) := by decide +kernel
theorem d6_11 : decode jdk_52_method_21_code 11 = .ok (.iload_n 1, 1) := by decide +kernel
theorem d6_12 : decode jdk_52_method_21_code 12 = .ok (.caload, 1) := by decide +kernel
theorem d6_13 : decode jdk_52_method_21_code 13 = .ok (.istore 6, 2) := by decide +kernel
theorem d6_15 : decode jdk_52_method_21_code 15 = .ok (.iload 6, 2) := by decide +kernel
theorem d6_17 : decode jdk_52_method_21_code 17 = .ok (.sipush 255, 3) := by decide +kernel
theorem d6_20 : decode jdk_52_method_21_code 20 = .ok (.if_icmp .le 6, 3) := by decide +kernel
theorem d6_26 : decode jdk_52_method_21_code 26 = .ok (.aload_n 2, 1) := by decide +kernel
theorem d6_27 : decode jdk_52_method_21_code 27 = .ok (.iload_n 3, 1) := by decide +kernel
theorem d6_28 : decode jdk_52_method_21_code 28 = .ok (.iload 6, 2) := by decide +kernel
theorem d6_30 : decode jdk_52_method_21_code 30 = .ok (.i2b, 1) := by decide +kernel
theorem d6_31 : decode jdk_52_method_21_code 31 = .ok (.bastore, 1) := by decide +kernel
theorem d6_32 : decode jdk_52_method_21_code 32 = .ok (.iinc 1 1, 3) := by decide +kernel
theorem d6_35 : decode jdk_52_method_21_code 35 = .ok (.iinc 3 1, 3) := by decide +kernel
theorem d6_38 : decode jdk_52_method_21_code 38 = .ok (.iinc 5 1, 3) := by decide +kernel
theorem d6_41 : decode jdk_52_method_21_code 41 = .ok (.goto (-38), 3) := by decide +kernel
theorem d6_44 : decode jdk_52_method_21_code 44 = .ok (.iload 4, 2) := by decide +kernel
theorem d6_46 : decode jdk_52_method_21_code 46 = .ok (.ireturn, 1) := by decide +kernel
theorem ef_6 (m : MethodId) (x0 : Addr) (x1 : Int32) (x2 : Addr) (x3 : Int32) (x4 : Int32) : entryFrame m #[(.ref x0), (.int x1), (.ref x2), (.int x3), (.int x4)] 7 = mkF m 0 #[.val (.ref x0), .val (.int x1), .val (.ref x2), .val (.int x3), .val (.int x4), .unset, .unset] [] := by first | (simp [entryFrame, mkF, argsToLocals, Value.category]; done) | rfl
set_option maxRecDepth 65536 in
set_option maxHeartbeats 40000000 in
theorem rm6 (l : Launch) (Z : State) (a0 : Array Value) (hw : ∀ d ∈ tables_1, d.before a0 Z = true) (x0 : Addr) (x1 : Int32) (x2 : Addr) (x3 : Int32) (x4 : Int32) (h0 : Heap) (n0 : Nat) (n : Nat) (hn1 : 1 ≤ n) (hn : n ≤ 4000) (ch : Nat → Int32) (hch : ∀ t, t < n → ¬ (255 : Int32) < ch t) (hx1 : Ix x1 0) (hx3 : Ix x3 0) (hx4 : Ix x4 n) (ga : n0 ≤ x2) (ne : x0 ≠ x2) (V0 : Ary Z h0 x0 .char n (fun t => .int (ch t))) (V2 : Ary Z h0 x2 .byte n (fun _ => .int (0 : Int32))) :
    Con l Z (⟨"java/lang/StringUTF16", "compress", "([CI[BII)I"⟩ : MethodName) jdk_52_method_21_code 7 (some .int) [] ({ frames := 0, cells := 0, slots := 0, locals := 0 } : Room) #[(.ref x0), (.int x1), (.ref x2), (.int x3), (.int x4)] h0 (fun v h L => v = some (.int x4) ∧ Fr n0 L ∧ Keep h0 h [x2] ∧ Ary Z h x2 .byte n (fun t => .int (nar .byte (ch t).toInt8.toInt32))) := by
  refine Con.of (plainFor_of_name pn_0) ?_
  intro p e s m below meth c s₁ X0 hx hby hml hown hnm hret hlk hZ e0
  refine End.cast ?_ (ef_6 m x0 x1 x2 x3 x4)
  have N0 := Fr.nil n0
  have loop : ∀ (d i : Nat) (T : State) (hh : Heap) (lc : List Loc) (o' d' i' : Int32) (u : Slot), n - i < d → Stand p l e ({ frames := 0, cells := 0, slots := 0, locals := 0 } : Room) s m #[(.ref x0), (.int x1), (.ref x2), (.int x3), (.int x4)] below meth c T lc 0 0 → T.heap = hh → Fr n0 lc → Keep h0 hh [x2] → Ary Z hh x0 .char n (fun t => .int (ch t)) → Ary Z hh x2 .byte n (own_by ch i) → Ix o' i → Ix d' i → Ix i' i → i ≤ n → One u → End p e below s (fun v h L => v = some (.int x4) ∧ Fr n0 L ∧ Keep h0 h [x2] ∧ Ary Z h x2 .byte n (fun t => .int (nar .byte (ch t).toInt8.toInt32))) 0 0 (T.setTop (mkF m 3 #[.val (.ref x0), .val (.int o'), .val (.ref x2), .val (.int d'), .val (.int x4), .val (.int i'), u] [])) := by
    intro d
    induction d with
    | zero => intro i T hh lc o' d' i' u h; omega
    | succ d ih =>
      intro i T hh lc o' d' i' u hd X eT NT KT V0 V2 ho hd' hi hle hu
      refine k_iload X hx (q := 5) rfl (hb hby d6_3) rfl ?_
      refine k_iload X hx (q := 7) rfl (hb hby d6_5) rfl ?_
      refine k_icmp_ge X hx (q1 := 44) (q := 10) (by decide) (by decide) rfl (hb hby d6_7) (fun hc1 => ?_) (fun hc1 => ?_)
      · have hik : i = n := by have := mt (own_lt hi hx4).mpr hc1; omega
        refine k_iload X hx (q := 46) rfl (hb hby d6_44) rfl ?_
        exact k_retI X hx hlk (by decide) (by decide) hret (hb hby d6_46) ⟨rfl, NT, by rw [eT]; exact KT, by rw [eT]; exact V2.congr fun t ht => by unfold own_by; rw [if_pos (by omega)]⟩
      · have hik := (own_lt hi hx4).mp hc1
        refine k_aloadN X hx (q := 11) rfl (hb hby d6_10) rfl rfl ?_
        refine k_iloadN X hx (q := 12) rfl (hb hby d6_11) rfl ?_
        refine k_arC X hx hZ eT (x := (.int (ch i))) i (q := 13) rfl (hb hby d6_12) V0 ho hik rfl ?_
        refine k_istore X hx (L' := #[.val (.ref x0), .val (.int o'), .val (.ref x2), .val (.int d'), .val (.int x4), .val (.int i'), .val (.int (ch i))]) (q := 15) rfl (hb hby d6_13) (os6_13_1 hu) ?_
        refine k_iload X hx (q := 17) rfl (hb hby d6_15) rfl ?_
        refine k_sipush X hx (v := (255 : Int32)) rfl (q := 20) rfl (hb hby d6_17) ?_
        refine k_icmp_le X hx (q1 := 26) (q := 23) (by decide) (by decide) rfl (hb hby d6_20) (fun _ => ?_) (fun hc => absurd hc (hch i hik))
        refine k_aloadN X hx (q := 27) rfl (hb hby d6_26) rfl rfl ?_
        refine k_iloadN X hx (q := 28) rfl (hb hby d6_27) rfl ?_
        refine k_iload X hx (q := 30) rfl (hb hby d6_28) rfl ?_
        refine k_i2b X hx (q := 31) rfl (hb hby d6_30) ?_
        refine k_asB X hx hZ eT i (q := 32) rfl (hb hby d6_31) V2 hd' hik ?_
        intro T3 h3 X3 e3 W3 V3
        have K3 := Keep.of_wr W3
        have N3 := Fr.snoc X3 NT ga
        refine k_iinc X3 hx (L' := #[.val (.ref x0), .val (.int (o' + (1 : Int32))), .val (.ref x2), .val (.int d'), .val (.int x4), .val (.int i'), .val (.int (ch i))]) (q := 35) rfl (hb hby d6_32) rfl rfl ?_
        refine k_iinc X3 hx (L' := #[.val (.ref x0), .val (.int (o' + (1 : Int32))), .val (.ref x2), .val (.int (d' + (1 : Int32))), .val (.int x4), .val (.int i'), .val (.int (ch i))]) (q := 38) rfl (hb hby d6_35) rfl rfl ?_
        refine k_iinc X3 hx (L' := #[.val (.ref x0), .val (.int (o' + (1 : Int32))), .val (.ref x2), .val (.int (d' + (1 : Int32))), .val (.int x4), .val (.int (i' + (1 : Int32))), .val (.int (ch i))]) (q := 41) rfl (hb hby d6_38) rfl rfl ?_
        refine k_goto X3 hx (q := 3) (by decide) (by decide) (hb hby d6_41) ?_
        have Gu4 := (V0.keep K3 (ninS ne nin0))
        exact ih (i + 1) _ _ _ _ _ _ _ (by omega) X3 e3 N3 (Keep.trans KT K3 (allS (Or.inl (List.mem_of_getElem? (i := 0) rfl)) all0)) Gu4 (V3.congr (own_by_step ch i n)) (own_up ho (by omega)) (own_up hd' (by omega)) (own_up hi (by omega)) (by omega) (One.val rfl)
  refine k_iconst X0 hx (v := (0 : Int32)) rfl (q := 1) rfl (hb hby d6_0) ?_
  refine k_istore X0 hx (L' := #[.val (.ref x0), .val (.int x1), .val (.ref x2), .val (.int x3), .val (.int x4), .val (.int (0 : Int32)), .unset]) (q := 3) rfl (hb hby d6_1) rfl ?_
  exact loop (n + 1) 0 _ _ _ _ _ _ _ (by omega) X0 e0 N0 (Keep.refl h0 [x2]) V0 (V2.congr fun t _ => by unfold own_by; rw [if_neg (by omega)]) hx1 hx3 ⟨by decide, by decide⟩ (by omega) One.u
theorem d5_0 : decode jdk_52_method_16_code 0 = .ok (.iload_n 2, 1) := by decide +kernel
theorem d5_1 : decode jdk_52_method_16_code 1 = .ok (.newarray .byte, 2) := by decide +kernel
theorem d5_3 : decode jdk_52_method_16_code 3 = .ok (.astore_n 3, 1) := by decide +kernel
theorem d5_4 : decode jdk_52_method_16_code 4 = .ok (.aload_n 0, 1) := by decide +kernel
theorem d5_5 : decode jdk_52_method_16_code 5 = .ok (.iload_n 1, 1) := by decide +kernel
theorem d5_6 : decode jdk_52_method_16_code 6 = .ok (.aload_n 3, 1) := by decide +kernel
theorem d5_7 : decode jdk_52_method_16_code 7 = .ok (.iconst 0, 1) := by decide +kernel
theorem d5_8 : decode jdk_52_method_16_code 8 = .ok (.iload_n 2, 1) := by decide +kernel
theorem d5_9 : decode jdk_52_method_16_code 9 = .ok (.invokestatic 115, 3) := by decide +kernel
theorem d5_12 : decode jdk_52_method_16_code 12 = .ok (.istore 4, 2) := by decide +kernel
theorem d5_14 : decode jdk_52_method_16_code 14 = .ok (.iload 4, 2) := by decide +kernel
theorem d5_16 : decode jdk_52_method_16_code 16 = .ok (.iload_n 2, 1) := by decide +kernel
theorem d5_17 : decode jdk_52_method_16_code 17 = .ok (.if_icmp .eq 40, 3) := by decide +kernel
theorem d5_57 : decode jdk_52_method_16_code 57 = .ok (.aload_n 3, 1) := by decide +kernel
theorem d5_58 : decode jdk_52_method_16_code 58 = .ok (.areturn, 1) := by decide +kernel
theorem ef_5 (m : MethodId) (x0 : Addr) (x1 : Int32) (x2 : Int32) : entryFrame m #[(.ref x0), (.int x1), (.int x2)] 6 = mkF m 0 #[.val (.ref x0), .val (.int x1), .val (.int x2), .unset, .unset, .unset] [] := by first | (simp [entryFrame, mkF, argsToLocals, Value.category]; done) | rfl
set_option maxRecDepth 65536 in
set_option maxHeartbeats 40000000 in
theorem rm5 (l : Launch) (Z : State) (a0 : Array Value) (hw : ∀ d ∈ tables_1, d.before a0 Z = true) (x0 : Addr) (x1 : Int32) (x2 : Int32) (h0 : Heap) (n0 : Nat) (Z0 : n0 ≤ h0.size) (n : Nat) (hn1 : 1 ≤ n) (hn : n ≤ 4000) (ch : Nat → Int32) (hch : ∀ t, t < n → ¬ (255 : Int32) < ch t) (hcap : n ≤ 3) (hx1 : Ix x1 0) (hx2 : Ix x2 n) (V0 : Ary Z h0 x0 .char n (fun t => .int (ch t))) :
    Con l Z (⟨"java/lang/StringUTF16", "compress", "([CII)[B"⟩ : MethodName) jdk_52_method_16_code 6 (some (.array .byte)) [] ({ frames := 1, cells := 1, slots := 3, locals := 18 } : Room) #[(.ref x0), (.int x1), (.int x2)] h0 (fun v h L => ∃ b : Addr, v = some (.ref b) ∧ Fr n0 L ∧ Keep h0 h [] ∧ h0.size ≤ b ∧ Ary Z h b .byte n (fun t => .int (nar .byte (ch t).toInt8.toInt32))) := by
  refine Con.of (plainFor_of_name pn_0) ?_
  intro p e s m below meth c s₁ X0 hx hby hml hown hnm hret hlk hZ e0
  refine End.cast ?_ (ef_5 m x0 x1 x2)
  have N0 := Fr.nil n0
  refine k_iloadN X0 hx (q := 1) rfl (hb hby d5_0) rfl ?_
  refine k_newP X0 hx hZ (hw _ (List.mem_of_getElem? (i := 23) rfl)) e0 (q := 3) rfl (hb hby d5_1) hx2.1 (cap := 3) (by rw [hx2.2]; omega) (by decide) (by decide) (by decide) ?_
  intro T1 h1 ba k1 X1 e1 g1 E1 A1
  have K1 := Keep.of_ext E1
  have V1 : Ary Z h1 ba .byte n (fun _ => .int (0 : Int32)) := Ary.new A1 hx2.1 hx2.2
  refine k_astoreN X1 hx (L' := #[.val (.ref x0), .val (.int x1), .val (.int x2), .val (.ref ba), .unset, .unset]) (q := 4) rfl (hb hby d5_3) rfl rfl ?_
  refine k_aloadN X1 hx (q := 5) rfl (hb hby d5_4) rfl rfl ?_
  refine k_iloadN X1 hx (q := 6) rfl (hb hby d5_5) rfl ?_
  refine k_aloadN X1 hx (q := 7) rfl (hb hby d5_6) rfl rfl ?_
  refine k_iconst X1 hx (v := (0 : Int32)) rfl (q := 8) rfl (hb hby d5_7) ?_
  refine k_iloadN X1 hx (q := 9) rfl (hb hby d5_8) rfl ?_
  have ge_ba : n0 ≤ ba := Nat.le_trans Z0 (Nat.le_of_eq g1.symm)
  have ne_x0_ba : x0 ≠ ba := Nat.ne_of_lt (Nat.lt_of_lt_of_le (V0).lt (Nat.le_of_eq g1.symm))
  have Gu2 := (V0.keep K1 nin0)
  refine k_callS X1 hx hZ (y := (⟨"java/lang/StringUTF16", "compress", "([CI[BII)I"⟩ : MethodName)) hown (hw _ (List.mem_of_getElem? (i := 24) rfl)) (hw _ (List.mem_of_getElem? (i := 25) rfl)) (hw _ (List.mem_of_getElem? (i := 21) rfl)) (hw _ (List.mem_of_getElem? (i := 26) rfl)) (by decide) 0 e1 (rm6 l Z a0 hw x0 x1 ba (0 : Int32) x2 h1 n0 n hn1 hn ch hch hx1 ⟨by decide, by decide⟩ hx2 ge_ba ne_x0_ba Gu2 V1) (by decide) (by decide) (by decide) (by decide) (by rw [hml]; rfl) (as := [(.ref x0), (.int x1), (.ref ba), (.int (0 : Int32)), (.int x2)]) (rest := []) pd_0 rfl (by first | exact Nat.le_refl _ | simp [Value.category]) (q := 12) rfl (hb hby d5_9) ?_
  rintro _ T3 L3 X3 ⟨rfl, N3q, K3, V3⟩
  have N3 := Fr.app N0 N3q
  show End _ _ _ _ _ _ _ (T3.setTop (mkF m 12 #[.val (.ref x0), .val (.int x1), .val (.int x2), .val (.ref ba), .unset, .unset] [(.int x2)]))
  refine k_istore X3 hx (L' := #[.val (.ref x0), .val (.int x1), .val (.int x2), .val (.ref ba), .val (.int x2), .unset]) (q := 14) rfl (hb hby d5_12) rfl ?_
  refine k_iload X3 hx (q := 16) rfl (hb hby d5_14) rfl ?_
  refine k_iloadN X3 hx (q := 17) rfl (hb hby d5_16) rfl ?_
  refine k_icmp_eq X3 hx (q1 := 57) (q := 20) (by decide) (by decide) rfl (hb hby d5_17) (fun _ => ?_) (fun hc => absurd rfl hc)
  refine k_aloadN X3 hx (q := 58) rfl (hb hby d5_57) rfl rfl ?_
  have Kp5 : Keep h0 h1 [] := Keep.trans (Keep.refl h0 []) K1 all0
  have Kp6 : Keep h0 T3.heap [] := Keep.trans Kp5 K3 (allS (Or.inr (Nat.le_trans (Keep.refl h0 []).1 (Nat.le_of_eq g1.symm))) all0)
  exact k_retA X3 hx hlk (by decide) (by decide) hret rfl rfl (hb hby d5_58) ⟨ba, rfl, N3, Kp6, (Nat.le_of_eq g1.symm), V3⟩
theorem d7_0 : decode jdk_52_method_15_code 0 = .ok (.iload_n 1, 1) := by decide +kernel
theorem d7_1 : decode jdk_52_method_15_code 1 = .ok (.aload_n 0, 1) := by decide +kernel
theorem d7_2 : decode jdk_52_method_15_code 2 = .ok (.arraylength, 1) := by decide +kernel
theorem d7_3 : decode jdk_52_method_15_code 3 = .ok (.isub, 1) := by decide +kernel
theorem d7_4 : decode jdk_52_method_15_code 4 = .ok (.bipush 31, 2) := by decide +kernel
theorem d7_6 : decode jdk_52_method_15_code 6 = .ok (.iushr, 1) := by decide +kernel
theorem d7_7 : decode jdk_52_method_15_code 7 = .ok (.i2b, 1) := by decide +kernel
theorem d7_8 : decode jdk_52_method_15_code 8 = .ok (.ireturn, 1) := by decide +kernel
theorem ef_7 (m : MethodId) (x0 : Addr) (x1 : Int32) : entryFrame m #[(.ref x0), (.int x1)] 2 = mkF m 0 #[.val (.ref x0), .val (.int x1)] [] := by first | (simp [entryFrame, mkF, argsToLocals, Value.category]; done) | rfl
set_option maxRecDepth 65536 in
set_option maxHeartbeats 40000000 in
theorem rm7 (l : Launch) (Z : State) (a0 : Array Value) (hw : ∀ d ∈ tables_1, d.before a0 Z = true) (x0 : Addr) (x1 : Int32) (h0 : Heap) (n0 : Nat) (n : Nat) (v : Nat → Value) (hx1 : n.toInt32 = x1) (V0 : Ary Z h0 x0 .byte n v) :
    Con l Z (⟨"java/lang/StringUTF16", "coderFromArrayLen", "([BI)B"⟩ : MethodName) jdk_52_method_15_code 2 (some .byte) [] ({ frames := 0, cells := 0, slots := 0, locals := 0 } : Room) #[(.ref x0), (.int x1)] h0 (fun v h L => v = some (.int 0) ∧ Fr n0 L ∧ h = h0) := by
  refine Con.of (plainFor_of_name pn_0) ?_
  intro p e s m below meth c s₁ X0 hx hby hml hown hnm hret hlk hZ e0
  refine End.cast ?_ (ef_7 m x0 x1)
  have N0 := Fr.nil n0
  refine k_iloadN X0 hx (q := 1) rfl (hb hby d7_0) rfl ?_
  refine k_aloadN X0 hx (q := 2) rfl (hb hby d7_1) rfl rfl ?_
  refine k_al X0 hx hZ e0 (z := x1) (q := 3) rfl (hb hby d7_2) V0 hx1 ?_
  refine k_isub X0 hx (q := 4) rfl (hb hby d7_3) ?_
  refine k_bipush X0 hx (v := (31 : Int32)) rfl (q := 6) rfl (hb hby d7_4) ?_
  refine k_iushr X0 hx (q := 7) rfl (hb hby d7_6) ?_
  refine k_i2b X0 hx (q := 8) rfl (hb hby d7_7) ?_
  exact k_retN X0 hx (t := .byte) hlk (by decide) (by decide) hret (by simp) (hb hby d7_8) ⟨by rw [show x1 - x1 = (0 : Int32) from by simp]; decide, N0, e0⟩
theorem d3_0 : decode jdk_42_method_149_code 0 = .ok (.aload_n 0, 1) := by decide +kernel
theorem d3_1 : decode jdk_42_method_149_code 1 = .ok (.invokespecial 1, 3) := by decide +kernel
theorem d3_4 : decode jdk_42_method_149_code 4 = .ok (.iload_n 3, 1) := by decide +kernel
theorem d3_5 : decode jdk_42_method_149_code 5 = .ok (.ifCond .ne 22, 3) := by decide +kernel
theorem d3_8 : decode jdk_42_method_149_code 8 = .ok (.aload_n 0, 1) := by decide +kernel
theorem d3_9 : decode jdk_42_method_149_code 9 = .ok (.ldc 7, 2) := by decide +kernel
theorem d3_11 : decode jdk_42_method_149_code 11 = .ok (.getfield 9, 3) := by decide +kernel
theorem d3_14 : decode jdk_42_method_149_code 14 = .ok (.putfield 9, 3) := by decide +kernel
theorem d3_17 : decode jdk_42_method_149_code 17 = .ok (.aload_n 0, 1) := by decide +kernel
theorem d3_18 : decode jdk_42_method_149_code 18 = .ok (.ldc 7, 2) := by decide +kernel
theorem d3_20 : decode jdk_42_method_149_code 20 = .ok (.getfield 15, 3) := by decide +kernel
theorem d3_23 : decode jdk_42_method_149_code 23 = .ok (.putfield 15, 3) := by decide +kernel
theorem d3_26 : decode jdk_42_method_149_code 26 = .ok (.return_, 1) := by decide +kernel
theorem d3_27 : decode jdk_42_method_149_code 27 = .ok (.getstatic 38, 3) := by decide +kernel
theorem d3_30 : decode jdk_42_method_149_code 30 = .ok (.ifCond .eq 28, 3) := by decide +kernel
theorem d3_33 : decode jdk_42_method_149_code 33 = .ok (.aload_n 1, 1) := by decide +kernel
theorem d3_34 : decode jdk_42_method_149_code 34 = .ok (.iload_n 2, 1) := by decide +kernel
theorem d3_35 : decode jdk_42_method_149_code 35 = .ok (.iload_n 3, 1) := by decide +kernel
theorem d3_36 : decode jdk_42_method_149_code 36 = .ok (.invokestatic 177, 3) := by decide +kernel
theorem d3_39 : decode jdk_42_method_149_code 39 = .ok (.astore 5, 2) := by decide +kernel
theorem d3_41 : decode jdk_42_method_149_code 41 = .ok (.aload_n 0, 1) := by decide +kernel
theorem d3_42 : decode jdk_42_method_149_code 42 = .ok (.aload 5, 2) := by decide +kernel
theorem d3_44 : decode jdk_42_method_149_code 44 = .ok (.iload_n 3, 1) := by decide +kernel
theorem d3_45 : decode jdk_42_method_149_code 45 = .ok (.invokestatic 47, 3) := by decide +kernel
theorem d3_48 : decode jdk_42_method_149_code 48 = .ok (.putfield 15, 3) := by decide +kernel
theorem d3_51 : decode jdk_42_method_149_code 51 = .ok (.aload_n 0, 1) := by decide +kernel
theorem d3_52 : decode jdk_42_method_149_code 52 = .ok (.aload 5, 2) := by decide +kernel
theorem d3_54 : decode jdk_42_method_149_code 54 = .ok (.putfield 9, 3) := by decide +kernel
theorem d3_57 : decode jdk_42_method_149_code 57 = .ok (.return_, 1) := by decide +kernel
theorem ef_3 (m : MethodId) (x0 : Addr) (x1 : Addr) (x2 : Int32) (x3 : Int32) : entryFrame m #[(.ref x0), (.ref x1), (.int x2), (.int x3), .null] 6 = mkF m 0 #[.val (.ref x0), .val (.ref x1), .val (.int x2), .val (.int x3), .val .null, .unset] [] := by first | (simp [entryFrame, mkF, argsToLocals, Value.category]; done) | rfl
set_option maxRecDepth 65536 in
set_option maxHeartbeats 40000000 in
theorem rm3 (l : Launch) (Z : State) (a0 : Array Value) (hw : ∀ d ∈ tables_1, d.before a0 Z = true) (x0 : Addr) (x1 : Addr) (x2 : Int32) (x3 : Int32) (h0 : Heap) (n0 : Nat) (Z0 : n0 ≤ h0.size) (n : Nat) (hn1 : 1 ≤ n) (hn : n ≤ 4000) (ch : Nat → Int32) (hch : ∀ t, t < n → ¬ (255 : Int32) < ch t) (hcap : n ≤ 3) (hx2 : Ix x2 0) (hx3 : Ix x3 n) (cs : Int32) (hcs : ¬ cs = (0 : Int32)) (hS : Sta Z h0 "java/lang/String" "COMPACT_STRINGS" "Z" (.int cs)) (ga : n0 ≤ x0) (E0 : Exa Z h0 x0 "java/lang/String") (F1 : Fld Z h0 x0 "java/lang/String" "value" "[B" .null) (F2 : Fld Z h0 x0 "java/lang/String" "coder" "B" (.int (0 : Int32))) (V0 : Ary Z h0 x1 .char n (fun t => .int (ch t))) :
    Con l Z (⟨"java/lang/String", "<init>", "([CIILjava/lang/Void;)V"⟩ : MethodName) jdk_42_method_149_code 6 none [] ({ frames := 2, cells := 1, slots := 3, locals := 35 } : Room) #[(.ref x0), (.ref x1), (.int x2), (.int x3), .null] h0 (fun v h L => v = none ∧ Fr n0 L ∧ Keep h0 h [x0] ∧ ∃ b : Addr, h0.size ≤ b ∧ Fld Z h x0 "java/lang/String" "value" "[B" (.ref b) ∧ Fld Z h x0 "java/lang/String" "coder" "B" (.int (0 : Int32)) ∧ Ary Z h b .byte n (fun t => .int (nar .byte (ch t).toInt8.toInt32))) := by
  refine Con.of (plainFor_of_name pn_1) ?_
  intro p e s m below meth c s₁ X0 hx hby hml hown hnm hret hlk hZ e0
  refine End.cast ?_ (ef_3 m x0 x1 x2 x3)
  have N0 := Fr.nil n0
  refine k_aloadN X0 hx (q := 1) rfl (hb hby d3_0) rfl rfl ?_
  refine k_initO X0 hx hZ hown (hw _ (List.mem_of_getElem? (i := 15) rfl)) (hw _ (List.mem_of_getElem? (i := 16) rfl)) (hw _ (List.mem_of_getElem? (i := 17) rfl)) e0 (q := 4) rfl (hb hby d3_1) (by rw [hml]; rfl) (by decide) 0 (by first | exact Nat.le_refl _ | simp [Value.category]) (by decide) ?_
  intro T1 X1 e1
  refine k_iloadN X1 hx (q := 5) rfl (hb hby d3_4) rfl ?_
  refine k_if_ne X1 hx (q1 := 27) (q := 8) (by decide) (by decide) rfl (hb hby d3_5) (fun _ => ?_) (fun hc => absurd hc (fun q => by have := (own_eqi hx3 (m := 0) (n := 0) ⟨by decide, by decide⟩).mp q; omega))
  refine k_getS X1 hx hZ (host := "") hown (Or.inl (hw _ (List.mem_of_getElem? (i := 18) rfl))) Via.refl e1 (v := (.int cs)) (q := 30) rfl (hb hby d3_27) hS ?_
  intro T3 X3 e3
  refine k_if_eq X3 hx (q1 := 58) (q := 33) (by decide) (by decide) rfl (hb hby d3_30) (fun hc => absurd hc hcs) (fun _ => ?_)
  refine k_aloadN X3 hx (q := 34) rfl (hb hby d3_33) rfl rfl ?_
  refine k_iloadN X3 hx (q := 35) rfl (hb hby d3_34) rfl ?_
  refine k_iloadN X3 hx (q := 36) rfl (hb hby d3_35) rfl ?_
  refine k_callS X3 hx hZ (y := (⟨"java/lang/StringUTF16", "compress", "([CII)[B"⟩ : MethodName)) hown (hw _ (List.mem_of_getElem? (i := 19) rfl)) (hw _ (List.mem_of_getElem? (i := 20) rfl)) (hw _ (List.mem_of_getElem? (i := 21) rfl)) (hw _ (List.mem_of_getElem? (i := 22) rfl)) (by decide) 0 e3 (rm5 l Z a0 hw x1 x2 x3 h0 n0 Z0 n hn1 hn ch hch hcap hx2 hx3 V0) (by decide) (by decide) (by decide) (by decide) (by rw [hml]; rfl) (as := [(.ref x1), (.int x2), (.int x3)]) (rest := []) pd_1 rfl (by first | exact Nat.le_refl _ | simp [Value.category]) (q := 39) rfl (hb hby d3_36) ?_
  rintro _ T5 L5 X5 ⟨ba, rfl, N5q, K5, le5, V5⟩
  have N5 := Fr.app N0 N5q
  show End _ _ _ _ _ _ _ (T5.setTop (mkF m 39 #[.val (.ref x0), .val (.ref x1), .val (.int x2), .val (.int x3), .val .null, .unset] [(.ref ba)]))
  refine k_astore X5 hx (L' := #[.val (.ref x0), .val (.ref x1), .val (.int x2), .val (.int x3), .val .null, .val (.ref ba)]) (q := 41) rfl (hb hby d3_39) rfl rfl ?_
  refine k_aloadN X5 hx (q := 42) rfl (hb hby d3_41) rfl rfl ?_
  refine k_aload X5 hx (q := 44) rfl (hb hby d3_42) rfl rfl ?_
  refine k_iloadN X5 hx (q := 45) rfl (hb hby d3_44) rfl ?_
  refine k_callS X5 hx hZ (y := (⟨"java/lang/StringUTF16", "coderFromArrayLen", "([BI)B"⟩ : MethodName)) hown (hw _ (List.mem_of_getElem? (i := 27) rfl)) (hw _ (List.mem_of_getElem? (i := 28) rfl)) (hw _ (List.mem_of_getElem? (i := 21) rfl)) (hw _ (List.mem_of_getElem? (i := 29) rfl)) (by decide) 1 rfl (rm7 l Z a0 hw ba x3 T5.heap n0 n _ (own_is hx3).symm V5) (by decide) (by decide) (by decide) (by decide) (by rw [hml]; rfl) (as := [(.ref ba), (.int x3)]) (rest := [(.ref x0)]) pd_2 rfl (by first | exact Nat.le_refl _ | simp [Value.category]) (q := 48) rfl (hb hby d3_45) ?_
  rintro _ T6 L6 X6 ⟨rfl, N6q, e6⟩
  have N6 := Fr.app N5 N6q
  show End _ _ _ _ _ _ _ (T6.setTop (mkF m 48 #[.val (.ref x0), .val (.ref x1), .val (.int x2), .val (.int x3), .val .null, .val (.ref ba)] [(.int (0 : Int32)), (.ref x0)]))
  have Gu7 := (F2.keep K5 nin0)
  have Gu8 := (E0.keep K5)
  refine k_putFN X6 hx hZ hown (hw _ (List.mem_of_getElem? (i := 30) rfl)) Via.refl e6 (Or.inr ⟨(hw _ (List.mem_of_getElem? (i := 31) rfl)), rfl, hnm⟩) (hw _ (List.mem_of_getElem? (i := 5) rfl)) (ty := .byte) (v' := (.int (nar .byte (0 : Int32)))) (by decide) rfl (fits_nar_byte _) (q := 51) rfl (hb hby d3_48) Gu7 Gu8 ?_
  intro T9 h9 X9 e9 W9
  have K9 := Keep.of_wr W9
  have N9 := Fr.snoc X9 N6 ga
  have Fw9 := (Gu7).same W9
  refine k_aloadN X9 hx (q := 52) rfl (hb hby d3_51) rfl rfl ?_
  refine k_aload X9 hx (q := 54) rfl (hb hby d3_52) rfl rfl ?_
  have Gu10 := ((F1.keep K5 nin0).other W9 (Or.inr (slot_ne (t := (.array .byte)) (t' := .byte) (Or.inr (hw _ (List.mem_of_getElem? (i := 33) rfl))) (Or.inr (hw _ (List.mem_of_getElem? (i := 31) rfl))) (by decide) (by decide) (by decide))))
  have Gu11 := (Gu8.keep K9)
  refine k_putF X9 hx hZ (host := "") hown (Or.inl (hw _ (List.mem_of_getElem? (i := 32) rfl))) Via.refl e9 (Or.inr ⟨(hw _ (List.mem_of_getElem? (i := 33) rfl)), rfl, hnm⟩) (hw _ (List.mem_of_getElem? (i := 5) rfl)) (ty := (.array .byte)) (by decide) rfl rfl (q := 57) rfl (hb hby d3_54) Gu10 Gu11 ?_
  intro T12 h12 X12 e12 W12
  have K12 := Keep.of_wr W12
  have N12 := Fr.snoc X12 N9 ga
  have Fw12 := (Gu10).same W12
  have Kp13 : Keep h0 T5.heap [x0] := Keep.trans (Keep.refl h0 [x0]) K5 all0
  have Kp14 : Keep h0 h9 [x0] := Keep.trans Kp13 K9 (allS (Or.inl (List.mem_of_getElem? (i := 0) rfl)) all0)
  have Kp15 : Keep h0 h12 [x0] := Keep.trans Kp14 K12 (allS (Or.inl (List.mem_of_getElem? (i := 0) rfl)) all0)
  have Gu16 := (Fw9.other W12 (Or.inr (slot_ne (t := .byte) (t' := (.array .byte)) (Or.inr (hw _ (List.mem_of_getElem? (i := 31) rfl))) (Or.inr (hw _ (List.mem_of_getElem? (i := 33) rfl))) (by decide) (by decide) (by decide))))
  have ne_x0_ba : x0 ≠ ba := Nat.ne_of_lt (Nat.lt_of_lt_of_le (E0).lt le5)
  have Gu17 := ((V5.keep K9 (ninS (Ne.symm ne_x0_ba) nin0)).keep K12 (ninS (Ne.symm ne_x0_ba) nin0))
  exact k_retV X12 hx hlk (by decide) (by decide) hret (hb hby d3_57) ⟨rfl, N12, by rw [e12]; exact Kp15, ba, le5, by rw [e12]; exact Fw12, by rw [e12]; exact Gu16, by rw [e12]; exact Gu17⟩
theorem d2_0 : decode jdk_42_method_3_code 0 = .ok (.aload_n 0, 1) := by decide +kernel
theorem d2_1 : decode jdk_42_method_3_code 1 = .ok (.aload_n 1, 1) := by decide +kernel
theorem d2_2 : decode jdk_42_method_3_code 2 = .ok (.iconst 0, 1) := by decide +kernel
theorem d2_3 : decode jdk_42_method_3_code 3 = .ok (.aload_n 1, 1) := by decide +kernel
theorem d2_4 : decode jdk_42_method_3_code 4 = .ok (.arraylength, 1) := by decide +kernel
theorem d2_5 : decode jdk_42_method_3_code 5 = .ok (.aconst_null, 1) := by decide +kernel
theorem d2_6 : decode jdk_42_method_3_code 6 = .ok (.invokespecial 27, 3) := by decide +kernel
theorem d2_9 : decode jdk_42_method_3_code 9 = .ok (.return_, 1) := by decide +kernel
theorem ef_2 (m : MethodId) (x0 : Addr) (x1 : Addr) : entryFrame m #[(.ref x0), (.ref x1)] 2 = mkF m 0 #[.val (.ref x0), .val (.ref x1)] [] := by first | (simp [entryFrame, mkF, argsToLocals, Value.category]; done) | rfl
set_option maxRecDepth 65536 in
set_option maxHeartbeats 40000000 in
theorem rm2 (l : Launch) (Z : State) (a0 : Array Value) (hw : ∀ d ∈ tables_1, d.before a0 Z = true) (x0 : Addr) (x1 : Addr) (h0 : Heap) (n0 : Nat) (Z0 : n0 ≤ h0.size) (n : Nat) (hn1 : 1 ≤ n) (hn : n ≤ 4000) (ch : Nat → Int32) (hch : ∀ t, t < n → ¬ (255 : Int32) < ch t) (hcap : n ≤ 3) (cs : Int32) (hcs : ¬ cs = (0 : Int32)) (hS : Sta Z h0 "java/lang/String" "COMPACT_STRINGS" "Z" (.int cs)) (ga : n0 ≤ x0) (E0 : Exa Z h0 x0 "java/lang/String") (F1 : Fld Z h0 x0 "java/lang/String" "value" "[B" .null) (F2 : Fld Z h0 x0 "java/lang/String" "coder" "B" (.int (0 : Int32))) (V0 : Ary Z h0 x1 .char n (fun t => .int (ch t))) :
    Con l Z (⟨"java/lang/String", "<init>", "([C)V"⟩ : MethodName) jdk_42_method_3_code 2 none [] ({ frames := 3, cells := 1, slots := 3, locals := 52 } : Room) #[(.ref x0), (.ref x1)] h0 (fun v h L => v = none ∧ Fr n0 L ∧ Keep h0 h [x0] ∧ ∃ b : Addr, h0.size ≤ b ∧ Fld Z h x0 "java/lang/String" "value" "[B" (.ref b) ∧ Fld Z h x0 "java/lang/String" "coder" "B" (.int (0 : Int32)) ∧ Ary Z h b .byte n (fun t => .int (nar .byte (ch t).toInt8.toInt32))) := by
  refine Con.of (plainFor_of_name pn_1) ?_
  intro p e s m below meth c s₁ X0 hx hby hml hown hnm hret hlk hZ e0
  refine End.cast ?_ (ef_2 m x0 x1)
  have N0 := Fr.nil n0
  refine k_aloadN X0 hx (q := 1) rfl (hb hby d2_0) rfl rfl ?_
  refine k_aloadN X0 hx (q := 2) rfl (hb hby d2_1) rfl rfl ?_
  refine k_iconst X0 hx (v := (0 : Int32)) rfl (q := 3) rfl (hb hby d2_2) ?_
  refine k_aloadN X0 hx (q := 4) rfl (hb hby d2_3) rfl rfl ?_
  refine k_al X0 hx hZ e0 (z := n.toInt32) (q := 5) rfl (hb hby d2_4) V0 rfl ?_
  refine k_aconst_null X0 hx (q := 6) rfl (hb hby d2_5) ?_
  refine k_callI X0 hx hZ (y := (⟨"java/lang/String", "<init>", "([CIILjava/lang/Void;)V"⟩ : MethodName)) hown rfl (hw _ (List.mem_of_getElem? (i := 11) rfl)) (hw _ (List.mem_of_getElem? (i := 12) rfl)) (hw _ (List.mem_of_getElem? (i := 6) rfl)) (hw _ (List.mem_of_getElem? (i := 14) rfl)) (by decide) 0 e0 (rm3 l Z a0 hw x0 x1 (0 : Int32) n.toInt32 h0 n0 Z0 n hn1 hn ch hch hcap ⟨by decide, by decide⟩ (own_nat (by omega)) cs hcs hS ga E0 F1 F2 V0) (by decide) (by decide) (by decide) (by decide) (by rw [hml]; rfl) (a := x0) (as := [(.ref x1), (.int (0 : Int32)), (.int n.toInt32), .null]) (rest := []) pd_3 rfl (by first | exact Nat.le_refl _ | simp [Value.category]) (q := 9) rfl (hb hby d2_6) ?_
  rintro _ T1 L1 X1 ⟨rfl, N1q, K1, ba, le1, G11, G21, V1⟩
  have N1 := Fr.app N0 N1q
  show End _ _ _ _ _ _ _ (T1.setTop (mkF m 9 #[.val (.ref x0), .val (.ref x1)] []))
  exact k_retV X1 hx hlk (by decide) (by decide) hret (hb hby d2_9) ⟨rfl, N1, K1, ba, le1, G11, G21, V1⟩
theorem ef_3E (m : MethodId) (x0 : Addr) (x1 : Addr) (x2 : Int32) (x3 : Int32) : entryFrame m #[(.ref x0), (.ref x1), (.int x2), (.int x3), .null] 6 = mkF m 0 #[.val (.ref x0), .val (.ref x1), .val (.int x2), .val (.int x3), .val .null, .unset] [] := by first | (simp [entryFrame, mkF, argsToLocals, Value.category]; done) | rfl
set_option maxRecDepth 65536 in
set_option maxHeartbeats 40000000 in
theorem rm3E (l : Launch) (Z : State) (a0 : Array Value) (hw : ∀ d ∈ tables_1, d.before a0 Z = true) (x0 : Addr) (x1 : Addr) (x2 : Int32) (x3 : Int32) (h0 : Heap) (n0 : Nat) (Z0 : n0 ≤ h0.size) (hx3 : x3 = 0) (ga : n0 ≤ x0) (E0 : Exa Z h0 x0 "java/lang/String") (F1 : Fld Z h0 x0 "java/lang/String" "value" "[B" .null) (F2 : Fld Z h0 x0 "java/lang/String" "coder" "B" (.int (0 : Int32))) :
    ConW l Z consts_1 (⟨"java/lang/String", "<init>", "([CIILjava/lang/Void;)V"⟩ : MethodName) jdk_42_method_149_code 6 none [] ({ frames := 2, cells := 2, slots := 4, locals := 35 } : Room) #[(.ref x0), (.ref x1), (.int x2), (.int x3), .null] h0 (fun v h L => v = none ∧ Fr n0 L ∧ Keep h0 h [x0] ∧ ∃ (b : Addr) (g : Nat → Value), Fld Z h x0 "java/lang/String" "value" "[B" (.ref b) ∧ Fld Z h x0 "java/lang/String" "coder" "B" (.int (0 : Int32)) ∧ Ary Z h b .byte 0 g) := by
  refine ConW.of (plainFor_of_name pn_1) (own_EL hw) ?_
  intro p e s m below meth c s₁ vm0 X0 hx hby hml hown hnm hret hlk hZ e0 W0
  refine End.cast ?_ (ef_3E m x0 x1 x2 x3)
  have N0 := Fr.nil n0
  refine k_aloadN X0 hx (q := 1) rfl (hb hby d3_0) rfl rfl ?_
  refine k_initO X0 hx hZ hown (hw _ (List.mem_of_getElem? (i := 15) rfl)) (hw _ (List.mem_of_getElem? (i := 16) rfl)) (hw _ (List.mem_of_getElem? (i := 17) rfl)) e0 (q := 4) rfl (hb hby d3_1) (by rw [hml]; rfl) (by decide) 0 (by first | exact Nat.le_refl _ | simp [Value.category]) (by decide) ?_
  intro T501 X501 e501
  refine k_iloadN X501 hx (q := 5) rfl (hb hby d3_4) rfl ?_
  refine k_if_ne X501 hx (q1 := 27) (q := 8) (by decide) (by decide) rfl (hb hby d3_5) (fun hc => absurd hx3 hc) (fun _ => ?_)
  refine k_aloadN X501 hx (q := 9) rfl (hb hby d3_8) rfl rfl ?_
  refine kw_ldc X501 hx hZ hown (hw _ (List.mem_of_getElem? (i := 34) rfl)) (own_wS hw) e501 W0 (List.mem_of_getElem? (i := 0) rfl) (vs := []) (z := 0) (by decide) (by decide) (by decide) (q := 11) rfl (hb hby d3_9) 0 (by decide) (by decide) (by decide) (by decide) ?_
  intro la503 T503 h503 lb503 kA503 X503 e503 E503 hZ hown W503 A503 C503 F503 V503 R503 L503 S503
  have K503 := Keep.of_ext E503
  have Vb503 := Ary.ofArv V503 (n := 0) ⟨by decide, by decide⟩
  have Gu504 := (E0.keep K503)
  have Gu505 := (F1.keep K503 nin0)
  have sf := Safe.null (EL := consts_1) hZ.alike (hw _ (List.mem_of_getElem? (i := 5) rfl)) Gu504 Gu505
  refine k_getF X503 hx hZ (host := "") hown (Or.inl (hw _ (List.mem_of_getElem? (i := 32) rfl))) Via.refl e503 (q := 14) rfl (hb hby d3_11) F503 ?_
  intro T506 X506 e506
  refine k_putF X506 hx hZ (host := "") hown (Or.inl (hw _ (List.mem_of_getElem? (i := 32) rfl))) Via.refl e506 (Or.inr ⟨(hw _ (List.mem_of_getElem? (i := 33) rfl)), rfl, hnm⟩) (hw _ (List.mem_of_getElem? (i := 5) rfl)) (ty := (.array .byte)) (by decide) rfl rfl (q := 17) rfl (hb hby d3_14) Gu505 Gu504 ?_
  intro T507 h507 X507 e507 W507
  have K507 := Keep.of_wr W507
  have N507 := Fr.snoc X507 N0 ga
  have Fw507 := (Gu505).same W507
  refine k_aloadN X507 hx (q := 18) rfl (hb hby d3_17) rfl rfl ?_
  refine kw_again X507 hx hZ hown (hw _ (List.mem_of_getElem? (i := 34) rfl)) L503 (q := 20) rfl (hb hby d3_18) ?_
  have Gu508 := (C503.keep K507 (ninS (Ne.symm (S503 x0 sf).1) nin0))
  refine k_getF X507 hx hZ (host := "") hown (Or.inl (hw _ (List.mem_of_getElem? (i := 30) rfl))) Via.refl e507 (q := 23) rfl (hb hby d3_20) Gu508 ?_
  intro T509 X509 e509
  have Gu510 := ((F2.keep K503 nin0).other W507 (Or.inr (slot_ne (t := .byte) (t' := (.array .byte)) (Or.inr (hw _ (List.mem_of_getElem? (i := 31) rfl))) (Or.inr (hw _ (List.mem_of_getElem? (i := 33) rfl))) (by decide) (by decide) (by decide))))
  have Gu511 := (Gu504.keep K507)
  refine k_putFN X509 hx hZ hown (hw _ (List.mem_of_getElem? (i := 30) rfl)) Via.refl e509 (Or.inr ⟨(hw _ (List.mem_of_getElem? (i := 31) rfl)), rfl, hnm⟩) (hw _ (List.mem_of_getElem? (i := 5) rfl)) (ty := .byte) (v' := (.int (nar .byte (0 : Int32)))) (by decide) rfl (fits_nar_byte _) (q := 26) rfl (hb hby d3_23) Gu510 Gu511 ?_
  intro T512 h512 X512 e512 W512
  have K512 := Keep.of_wr W512
  have N512 := Fr.snoc X512 N507 ga
  have Fw512 := (Gu510).same W512
  have Kp513 : Keep h0 h503 [x0] := Keep.trans (Keep.refl h0 [x0]) K503 all0
  have Kp514 : Keep h0 h507 [x0] := Keep.trans Kp513 K507 (allS (Or.inl (List.mem_of_getElem? (i := 0) rfl)) all0)
  have Kp515 : Keep h0 h512 [x0] := Keep.trans Kp514 K512 (allS (Or.inl (List.mem_of_getElem? (i := 0) rfl)) all0)
  have Gu516 := (Fw507.other W512 (Or.inr (slot_ne (t := (.array .byte)) (t' := .byte) (Or.inr (hw _ (List.mem_of_getElem? (i := 33) rfl))) (Or.inr (hw _ (List.mem_of_getElem? (i := 31) rfl))) (by decide) (by decide) (by decide))))
  have Gu517 := ((Vb503.keep K507 (ninS (Ne.symm (S503 x0 sf).2) nin0)).keep K512 (ninS (Ne.symm (S503 x0 sf).2) nin0))
  have Kp518 : Keep h503 h507 [x0] := Keep.trans (Keep.refl h503 [x0]) K507 (allS (Or.inl (List.mem_of_getElem? (i := 0) rfl)) all0)
  have Kp519 : Keep h503 h512 [x0] := Keep.trans Kp518 K512 (allS (Or.inl (List.mem_of_getElem? (i := 0) rfl)) all0)
  have Wd520 := Wd.keep W503 Kp519 (one_safe sf)
  exact kw_retV X512 hx (by rw [e512]; exact Wd520) hlk (by decide) (by decide) hret (hb hby d3_26) ⟨rfl, N512, by rw [e512]; exact Kp515, lb503, _, by rw [e512]; exact Gu516, by rw [e512]; exact Fw512, by rw [e512]; exact Gu517⟩
theorem ef_2E (m : MethodId) (x0 : Addr) (x1 : Addr) : entryFrame m #[(.ref x0), (.ref x1)] 2 = mkF m 0 #[.val (.ref x0), .val (.ref x1)] [] := by first | (simp [entryFrame, mkF, argsToLocals, Value.category]; done) | rfl
set_option maxRecDepth 65536 in
set_option maxHeartbeats 40000000 in
theorem rm2E (l : Launch) (Z : State) (a0 : Array Value) (hw : ∀ d ∈ tables_1, d.before a0 Z = true) (x0 : Addr) (x1 : Addr) (h0 : Heap) (n0 : Nat) (Z0 : n0 ≤ h0.size) (ga : n0 ≤ x0) (E0 : Exa Z h0 x0 "java/lang/String") (F1 : Fld Z h0 x0 "java/lang/String" "value" "[B" .null) (F2 : Fld Z h0 x0 "java/lang/String" "coder" "B" (.int (0 : Int32))) (v : Nat → Value) (V0 : Ary Z h0 x1 .char 0 v) :
    ConW l Z consts_1 (⟨"java/lang/String", "<init>", "([C)V"⟩ : MethodName) jdk_42_method_3_code 2 none [] ({ frames := 3, cells := 2, slots := 4, locals := 52 } : Room) #[(.ref x0), (.ref x1)] h0 (fun v h L => v = none ∧ Fr n0 L ∧ Keep h0 h [x0] ∧ ∃ (b : Addr) (g : Nat → Value), Fld Z h x0 "java/lang/String" "value" "[B" (.ref b) ∧ Fld Z h x0 "java/lang/String" "coder" "B" (.int (0 : Int32)) ∧ Ary Z h b .byte 0 g) := by
  refine ConW.of (plainFor_of_name pn_1) (own_EL hw) ?_
  intro p e s m below meth c s₁ vm0 X0 hx hby hml hown hnm hret hlk hZ e0 W0
  refine End.cast ?_ (ef_2E m x0 x1)
  have N0 := Fr.nil n0
  refine k_aloadN X0 hx (q := 1) rfl (hb hby d2_0) rfl rfl ?_
  refine k_aloadN X0 hx (q := 2) rfl (hb hby d2_1) rfl rfl ?_
  refine k_iconst X0 hx (v := (0 : Int32)) rfl (q := 3) rfl (hb hby d2_2) ?_
  refine k_aloadN X0 hx (q := 4) rfl (hb hby d2_3) rfl rfl ?_
  refine k_al X0 hx hZ e0 (z := (0 : Int32)) (q := 5) rfl (hb hby d2_4) V0 (by decide) ?_
  refine k_aconst_null X0 hx (q := 6) rfl (hb hby d2_5) ?_
  refine kw_callI X0 hx hZ (y := (⟨"java/lang/String", "<init>", "([CIILjava/lang/Void;)V"⟩ : MethodName)) (a := x0) hown rfl (hw _ (List.mem_of_getElem? (i := 11) rfl)) (hw _ (List.mem_of_getElem? (i := 12) rfl)) (hw _ (List.mem_of_getElem? (i := 6) rfl)) (hw _ (List.mem_of_getElem? (i := 14) rfl)) (by decide) 0 e0 W0 (rm3E l Z a0 hw x0 x1 (0 : Int32) (0 : Int32) h0 n0 Z0 rfl ga E0 F1 F2) (by decide) (by decide) (by decide) (by decide) (by rw [hml]; rfl) (as := [(.ref x1), (.int (0 : Int32)), (.int (0 : Int32)), .null]) (rest := []) pd_3 rfl (by first | exact Nat.le_refl _ | simp [Value.category]) (q := 9) rfl (hb hby d2_6) ?_
  rintro _ T501 L501 X501 hZ hown W501 R501 ⟨rfl, N501q, K501, b501, g501, G1501, G2501, V501⟩
  have N501 := Fr.app N0 N501q
  show EndG _ _ _ _ _ (T501.setTop (mkF m 9 #[.val (.ref x0), .val (.ref x1)] []))
  exact kw_retV X501 hx W501 hlk (by decide) (by decide) hret (hb hby d2_9) ⟨rfl, N501, K501, b501, g501, G1501, G2501, V501⟩
theorem d17_0 : decode jdk_43_method_3_code 0 = .ok (.iload_n 0, 1) := by decide +kernel
theorem d17_1 : decode jdk_43_method_3_code 1 = .ok (.sipush 255, 3) := by decide +kernel
theorem d17_4 : decode jdk_43_method_3_code 4 = .ok (.if_icmp .gt 7, 3) := by decide +kernel
theorem d17_7 : decode jdk_43_method_3_code 7 = .ok (.iconst 1, 1) := by decide +kernel
theorem d17_8 : decode jdk_43_method_3_code 8 = .ok (.goto 4, 3) := by decide +kernel
theorem d17_11 : decode jdk_43_method_3_code 11 = .ok (.iconst 0, 1) := by decide +kernel
theorem d17_12 : decode jdk_43_method_3_code 12 = .ok (.ireturn, 1) := by decide +kernel
theorem ef_17 (m : MethodId) (x0 : Int32) : entryFrame m #[(.int x0)] 1 = mkF m 0 #[.val (.int x0)] [] := by first | (simp [entryFrame, mkF, argsToLocals, Value.category]; done) | rfl
def f17 (x0 : Int32) : Int32 := (if (255 : Int32) < x0 then (0 : Int32) else (1 : Int32))
set_option maxRecDepth 65536 in
set_option maxHeartbeats 40000000 in
theorem rm17 (l : Launch) (Z : State) (a0 : Array Value) (hw : ∀ d ∈ tables_1, d.before a0 Z = true) (x0 : Int32) (h0 : Heap) (n0 : Nat) :
    Con l Z (⟨"java/lang/StringLatin1", "canEncode", "(C)Z"⟩ : MethodName) jdk_43_method_3_code 1 (some .boolean) [] ({ frames := 0, cells := 0, slots := 0, locals := 0 } : Room) #[(.int x0)] h0 (fun v h L => v = some (.int (f17 x0)) ∧ Fr n0 L ∧ h = h0) := by
  refine Con.of (plainFor_of_name pn_2) ?_
  intro p e s m below meth c s₁ X0 hx hby hml hown hnm hret hlk hZ e0
  refine End.cast ?_ (ef_17 m x0)
  have N0 := Fr.nil n0
  refine k_iloadN X0 hx (q := 1) rfl (hb hby d17_0) rfl ?_
  refine k_sipush X0 hx (v := (255 : Int32)) rfl (q := 4) rfl (hb hby d17_1) ?_
  refine k_icmp_gt X0 hx (q1 := 11) (q := 7) (by decide) (by decide) rfl (hb hby d17_4) (fun hc1 => ?_) (fun hc1 => ?_)
  · refine k_iconst X0 hx (v := (0 : Int32)) rfl (q := 12) rfl (hb hby d17_11) ?_
    exact k_retN X0 hx (t := .boolean) hlk (by decide) (by decide) hret (by simp) (hb hby d17_12) ⟨retI_eq ((rfl : f17 x0 = _).trans (if_pos hc1)), N0, e0⟩
  · refine k_iconst X0 hx (v := (1 : Int32)) rfl (q := 8) rfl (hb hby d17_7) ?_
    refine k_goto X0 hx (q := 12) (by decide) (by decide) (hb hby d17_8) ?_
    exact k_retN X0 hx (t := .boolean) hlk (by decide) (by decide) hret (by simp) (hb hby d17_12) ⟨retI_eq ((rfl : f17 x0 = _).trans (if_neg hc1)), N0, e0⟩
theorem d18_0 : decode jdk_43_method_46_code 0 = .ok (.iconst 1, 1) := by decide +kernel
theorem d18_1 : decode jdk_43_method_46_code 1 = .ok (.newarray .byte, 2) := by decide +kernel
theorem d18_3 : decode jdk_43_method_46_code 3 = .ok (.dup, 1) := by decide +kernel
theorem d18_4 : decode jdk_43_method_46_code 4 = .ok (.iconst 0, 1) := by decide +kernel
theorem d18_5 : decode jdk_43_method_46_code 5 = .ok (.iload_n 0, 1) := by decide +kernel
theorem d18_6 : decode jdk_43_method_46_code 6 = .ok (.i2b, 1) := by decide +kernel
theorem d18_7 : decode jdk_43_method_46_code 7 = .ok (.bastore, 1) := by decide +kernel
theorem d18_8 : decode jdk_43_method_46_code 8 = .ok (.areturn, 1) := by decide +kernel
theorem ef_18 (m : MethodId) (x0 : Int32) : entryFrame m #[(.int x0)] 1 = mkF m 0 #[.val (.int x0)] [] := by first | (simp [entryFrame, mkF, argsToLocals, Value.category]; done) | rfl
set_option maxRecDepth 65536 in
set_option maxHeartbeats 40000000 in
theorem rm18 (l : Launch) (Z : State) (a0 : Array Value) (hw : ∀ d ∈ tables_1, d.before a0 Z = true) (x0 : Int32) (h0 : Heap) (n0 : Nat) (Z0 : n0 ≤ h0.size) :
    Con l Z (⟨"java/lang/StringLatin1", "toBytes", "(C)[B"⟩ : MethodName) jdk_43_method_46_code 1 (some (.array .byte)) [] ({ frames := 0, cells := 1, slots := 1, locals := 0 } : Room) #[(.int x0)] h0 (fun v h L => ∃ b : Addr, v = some (.ref b) ∧ Fr n0 L ∧ Keep h0 h [] ∧ h0.size ≤ b ∧ Ary Z h b .byte 1 (fun _ => .int (nar .byte x0.toInt8.toInt32))) := by
  refine Con.of (plainFor_of_name pn_2) ?_
  intro p e s m below meth c s₁ X0 hx hby hml hown hnm hret hlk hZ e0
  refine End.cast ?_ (ef_18 m x0)
  have N0 := Fr.nil n0
  refine k_iconst X0 hx (v := (1 : Int32)) rfl (q := 1) rfl (hb hby d18_0) ?_
  refine k_newP X0 hx hZ (hw _ (List.mem_of_getElem? (i := 23) rfl)) e0 (q := 3) rfl (hb hby d18_1) (by decide) (cap := 1) (by decide) (by decide) (by decide) (by decide) ?_
  intro T1 h1 ba k1 X1 e1 g1 E1 A1
  have K1 := Keep.of_ext E1
  have V1 : Ary Z h1 ba .byte 1 (fun _ => .int (0 : Int32)) := Ary.new A1 (by decide) rfl
  refine k_dup X1 hx (q := 4) rfl (hb hby d18_3) rfl ?_
  refine k_iconst X1 hx (v := (0 : Int32)) rfl (q := 5) rfl (hb hby d18_4) ?_
  refine k_iloadN X1 hx (q := 6) rfl (hb hby d18_5) rfl ?_
  refine k_i2b X1 hx (q := 7) rfl (hb hby d18_6) ?_
  have ge_ba : n0 ≤ ba := Nat.le_trans Z0 (Nat.le_of_eq g1.symm)
  refine k_asB X1 hx hZ e1 0 (q := 8) rfl (hb hby d18_7) V1 ⟨by decide, by decide⟩ (by decide) ?_
  intro T2 h2 X2 e2 W2 V2
  have K2 := Keep.of_wr W2
  have N2 := Fr.snoc X2 N0 ge_ba
  have Kp3 : Keep h0 h1 [] := Keep.trans (Keep.refl h0 []) K1 all0
  have Kp4 : Keep h0 h2 [] := Keep.trans Kp3 K2 (allS (Or.inr (Nat.le_trans (Keep.refl h0 []).1 (Nat.le_of_eq g1.symm))) all0)
  have VF : Ary Z h2 ba .byte 1 (fun _ => .int (nar .byte x0.toInt8.toInt32)) := V2.congr fun t ht => by
    have q : t = 0 := by omega
    rw [if_pos q]
  exact k_retA X2 hx hlk (by decide) (by decide) hret rfl rfl (hb hby d18_8) ⟨ba, rfl, N2, by rw [e2]; exact Kp4, (Nat.le_of_eq g1.symm), by rw [e2]; exact VF⟩
theorem d19_0 : decode jdk_42_method_151_code 0 = .ok (.aload_n 0, 1) := by decide +kernel
theorem d19_1 : decode jdk_42_method_151_code 1 = .ok (.invokespecial 1, 3) := by decide +kernel
theorem d19_4 : decode jdk_42_method_151_code 4 = .ok (.aload_n 0, 1) := by decide +kernel
theorem d19_5 : decode jdk_42_method_151_code 5 = .ok (.aload_n 1, 1) := by decide +kernel
theorem d19_6 : decode jdk_42_method_151_code 6 = .ok (.putfield 9, 3) := by decide +kernel
theorem d19_9 : decode jdk_42_method_151_code 9 = .ok (.aload_n 0, 1) := by decide +kernel
theorem d19_10 : decode jdk_42_method_151_code 10 = .ok (.iload_n 2, 1) := by decide +kernel
theorem d19_11 : decode jdk_42_method_151_code 11 = .ok (.putfield 15, 3) := by decide +kernel
theorem d19_14 : decode jdk_42_method_151_code 14 = .ok (.return_, 1) := by decide +kernel
theorem ef_19 (m : MethodId) (x0 : Addr) (x1 : Addr) (x2 : Int32) : entryFrame m #[(.ref x0), (.ref x1), (.int x2)] 3 = mkF m 0 #[.val (.ref x0), .val (.ref x1), .val (.int x2)] [] := by first | (simp [entryFrame, mkF, argsToLocals, Value.category]; done) | rfl
set_option maxRecDepth 65536 in
set_option maxHeartbeats 40000000 in
theorem rm19 (l : Launch) (Z : State) (a0 : Array Value) (hw : ∀ d ∈ tables_1, d.before a0 Z = true) (x0 : Addr) (x1 : Addr) (x2 : Int32) (h0 : Heap) (n0 : Nat) (ga : n0 ≤ x0) (E0 : Exa Z h0 x0 "java/lang/String") (F1 : Fld Z h0 x0 "java/lang/String" "value" "[B" .null) (F2 : Fld Z h0 x0 "java/lang/String" "coder" "B" (.int (0 : Int32))) (hx2 : x2 = 0) :
    Con l Z (⟨"java/lang/String", "<init>", "([BB)V"⟩ : MethodName) jdk_42_method_151_code 3 none [] ({ frames := 1, cells := 0, slots := 0, locals := 12 } : Room) #[(.ref x0), (.ref x1), (.int x2)] h0 (fun v h L => v = none ∧ Fr n0 L ∧ Keep h0 h [x0] ∧ Fld Z h x0 "java/lang/String" "value" "[B" (.ref x1) ∧ Fld Z h x0 "java/lang/String" "coder" "B" (.int (0 : Int32))) := by
  refine Con.of (plainFor_of_name pn_1) ?_
  intro p e s m below meth c s₁ X0 hx hby hml hown hnm hret hlk hZ e0
  refine End.cast ?_ (ef_19 m x0 x1 x2)
  have N0 := Fr.nil n0
  refine k_aloadN X0 hx (q := 1) rfl (hb hby d19_0) rfl rfl ?_
  refine k_initO X0 hx hZ hown (hw _ (List.mem_of_getElem? (i := 15) rfl)) (hw _ (List.mem_of_getElem? (i := 16) rfl)) (hw _ (List.mem_of_getElem? (i := 17) rfl)) e0 (q := 4) rfl (hb hby d19_1) (by rw [hml]; rfl) (by decide) 0 (by first | exact Nat.le_refl _ | simp [Value.category]) (by decide) ?_
  intro T1 X1 e1
  refine k_aloadN X1 hx (q := 5) rfl (hb hby d19_4) rfl rfl ?_
  refine k_aloadN X1 hx (q := 6) rfl (hb hby d19_5) rfl rfl ?_
  refine k_putF X1 hx hZ (host := "") hown (Or.inl (hw _ (List.mem_of_getElem? (i := 32) rfl))) Via.refl e1 (Or.inr ⟨(hw _ (List.mem_of_getElem? (i := 33) rfl)), rfl, hnm⟩) (hw _ (List.mem_of_getElem? (i := 5) rfl)) (ty := (.array .byte)) (by decide) rfl rfl (q := 9) rfl (hb hby d19_6) F1 E0 ?_
  intro T2 h2 X2 e2 W2
  have K2 := Keep.of_wr W2
  have N2 := Fr.snoc X2 N0 ga
  have Fw2 := (F1).same W2
  refine k_aloadN X2 hx (q := 10) rfl (hb hby d19_9) rfl rfl ?_
  refine k_iloadN X2 hx (q := 11) rfl (hb hby d19_10) rfl ?_
  have Gu3 := (F2.other W2 (Or.inr (slot_ne (t := .byte) (t' := (.array .byte)) (Or.inr (hw _ (List.mem_of_getElem? (i := 31) rfl))) (Or.inr (hw _ (List.mem_of_getElem? (i := 33) rfl))) (by decide) (by decide) (by decide))))
  have Gu4 := (E0.keep K2)
  refine k_putFN X2 hx hZ hown (hw _ (List.mem_of_getElem? (i := 30) rfl)) Via.refl e2 (Or.inr ⟨(hw _ (List.mem_of_getElem? (i := 31) rfl)), rfl, hnm⟩) (hw _ (List.mem_of_getElem? (i := 5) rfl)) (ty := .byte) (v' := (.int (nar .byte x2))) (by decide) rfl (fits_nar_byte _) (q := 14) rfl (hb hby d19_11) Gu3 Gu4 ?_
  intro T5 h5 X5 e5 W5
  have K5 := Keep.of_wr W5
  have N5 := Fr.snoc X5 N2 ga
  have Fw5 := (Gu3).same W5
  have Kp6 : Keep h0 h2 [x0] := Keep.trans (Keep.refl h0 [x0]) K2 (allS (Or.inl (List.mem_of_getElem? (i := 0) rfl)) all0)
  have Kp7 : Keep h0 h5 [x0] := Keep.trans Kp6 K5 (allS (Or.inl (List.mem_of_getElem? (i := 0) rfl)) all0)
  have Gu8 := (Fw2.other W5 (Or.inr (slot_ne (t := (.array .byte)) (t' := .byte) (Or.inr (hw _ (List.mem_of_getElem? (i := 33) rfl))) (Or.inr (hw _ (List.mem_of_getElem? (i := 31) rfl))) (by decide) (by decide) (by decide))))
  exact k_retV X5 hx hlk (by decide) (by decide) hret (hb hby d19_14) ⟨rfl, N5, by rw [e5]; exact Kp7, by rw [e5]; exact Gu8, by rw [e5, show (0 : Int32) = nar .byte x2 from by rw [hx2]; decide]; exact Fw5⟩
theorem d16_0 : decode jdk_42_method_139_code 0 = .ok (.getstatic 38, 3) := by decide +kernel
theorem d16_3 : decode jdk_42_method_139_code 3 = .ok (.ifCond .eq 23, 3) := by decide +kernel
theorem d16_6 : decode jdk_42_method_139_code 6 = .ok (.iload_n 0, 1) := by decide +kernel
theorem d16_7 : decode jdk_42_method_139_code 7 = .ok (.invokestatic 1015, 3) := by decide +kernel
theorem d16_10 : decode jdk_42_method_139_code 10 = .ok (.ifCond .eq 16, 3) := by decide +kernel
theorem d16_13 : decode jdk_42_method_139_code 13 = .ok (.new 10, 3) := by decide +kernel
theorem d16_16 : decode jdk_42_method_139_code 16 = .ok (.dup, 1) := by decide +kernel
theorem d16_17 : decode jdk_42_method_139_code 17 = .ok (.iload_n 0, 1) := by decide +kernel
theorem d16_18 : decode jdk_42_method_139_code 18 = .ok (.invokestatic 1018, 3) := by decide +kernel
theorem d16_21 : decode jdk_42_method_139_code 21 = .ok (.iconst 0, 1) := by decide +kernel
theorem d16_22 : decode jdk_42_method_139_code 22 = .ok (.invokespecial 209, 3) := by decide +kernel
theorem d16_25 : decode jdk_42_method_139_code 25 = .ok (.areturn, 1) := by decide +kernel
theorem ef_16 (m : MethodId) (x0 : Int32) : entryFrame m #[(.int x0)] 1 = mkF m 0 #[.val (.int x0)] [] := by first | (simp [entryFrame, mkF, argsToLocals, Value.category]; done) | rfl
set_option maxRecDepth 65536 in
set_option maxHeartbeats 40000000 in
theorem rm16 (l : Launch) (Z : State) (a0 : Array Value) (hw : ∀ d ∈ tables_1, d.before a0 Z = true) (x0 : Int32) (h0 : Heap) (n0 : Nat) (Z0 : n0 ≤ h0.size) (O0 : Old Z n0 h0) (hx0 : ¬ (255 : Int32) < x0) (cs : Int32) (hcs : ¬ cs = (0 : Int32)) (hS : Sta Z Z.heap "java/lang/String" "COMPACT_STRINGS" "Z" (.int cs)) :
    Con l Z (⟨"java/lang/String", "valueOf", "(C)Ljava/lang/String;"⟩ : MethodName) jdk_42_method_139_code 1 (some (.object "java/lang/String")) [] ({ frames := 2, cells := 2, slots := 5, locals := 27 } : Room) #[(.int x0)] h0 (fun v h L => ∃ a b : Addr, v = some (.ref a) ∧ Fr n0 L ∧ Keep h0 h [] ∧ h0.size ≤ a ∧ Exa Z h a "java/lang/String" ∧ Fld Z h a "java/lang/String" "value" "[B" (.ref b) ∧ Fld Z h a "java/lang/String" "coder" "B" (.int (0 : Int32)) ∧ Ary Z h b .byte 1 (fun _ => .int (nar .byte x0.toInt8.toInt32))) := by
  refine Con.of (plainFor_of_name pn_1) ?_
  intro p e s m below meth c s₁ X0 hx hby hml hown hnm hret hlk hZ e0
  refine End.cast ?_ (ef_16 m x0)
  have N0 := Fr.nil n0
  refine k_getS X0 hx hZ (host := "") hown (Or.inl (hw _ (List.mem_of_getElem? (i := 18) rfl))) Via.refl e0 (v := (.int cs)) (q := 3) rfl (hb hby d16_0) (hS.ext O0.2) ?_
  intro T1 X1 e1
  refine k_if_eq X1 hx (q1 := 26) (q := 6) (by decide) (by decide) rfl (hb hby d16_3) (fun hc => absurd hc hcs) (fun _ => ?_)
  refine k_iloadN X1 hx (q := 7) rfl (hb hby d16_6) rfl ?_
  refine k_callS X1 hx hZ (y := (⟨"java/lang/StringLatin1", "canEncode", "(C)Z"⟩ : MethodName)) hown (hw _ (List.mem_of_getElem? (i := 90) rfl)) (hw _ (List.mem_of_getElem? (i := 91) rfl)) (hw _ (List.mem_of_getElem? (i := 80) rfl)) (hw _ (List.mem_of_getElem? (i := 92) rfl)) (by decide) 0 e1 (rm17 l Z a0 hw x0 h0 n0) (by decide) (by decide) (by decide) (by decide) (by rw [hml]; rfl) (as := [(.int x0)]) (rest := []) pd_4 rfl (by first | exact Nat.le_refl _ | simp [Value.category]) (q := 10) rfl (hb hby d16_7) ?_
  rintro _ T3 L3 X3 ⟨rfl, N3q, e3⟩
  have N3 := Fr.app N0 N3q
  show End _ _ _ _ _ _ _ (T3.setTop (mkF m 10 #[.val (.int x0)] [(.int (f17 x0))]))
  refine k_if_eq X3 hx (q1 := 26) (q := 13) (by decide) (by decide) rfl (hb hby d16_10) (fun hc => absurd hc (by unfold f17; rw [if_neg hx0]; decide)) (fun _ => ?_)
  refine k_new X3 hx hZ hown (hw _ (List.mem_of_getElem? (i := 77) rfl)) (hw _ (List.mem_of_getElem? (i := 5) rfl)) (hw _ (List.mem_of_getElem? (i := 6) rfl)) e3 (q := 16) rfl (hb hby d16_13) (by decide) (by decide) ?_
  intro T5 h5 rs X5 e5 g5 E5 A5 D5
  have K5 := Keep.of_ext E5
  have F6 : Fld Z h5 rs "java/lang/String" "coder" "B" (.int (0 : Int32)) := D5 (Or.inr (hw _ (List.mem_of_getElem? (i := 31) rfl))) (ty := .byte) (by decide)
  have F7 : Fld Z h5 rs "java/lang/String" "value" "[B" .null := D5 (Or.inr (hw _ (List.mem_of_getElem? (i := 33) rfl))) (ty := (.array .byte)) (by decide)
  refine k_dup X5 hx (q := 17) rfl (hb hby d16_16) rfl ?_
  refine k_iloadN X5 hx (q := 18) rfl (hb hby d16_17) rfl ?_
  have Sz8 : n0 ≤ h5.size := Nat.le_trans Z0 K5.1
  refine k_callS X5 hx hZ (y := (⟨"java/lang/StringLatin1", "toBytes", "(C)[B"⟩ : MethodName)) hown (hw _ (List.mem_of_getElem? (i := 93) rfl)) (hw _ (List.mem_of_getElem? (i := 94) rfl)) (hw _ (List.mem_of_getElem? (i := 80) rfl)) (hw _ (List.mem_of_getElem? (i := 95) rfl)) (by decide) 2 e5 (rm18 l Z a0 hw x0 h5 n0 Sz8) (by decide) (by decide) (by decide) (by decide) (by rw [hml]; rfl) (as := [(.int x0)]) (rest := [(.ref rs), (.ref rs)]) pd_5 rfl (by first | exact Nat.le_refl _ | simp [Value.category]) (q := 21) rfl (hb hby d16_18) ?_
  rintro _ T9 L9 X9 ⟨ba, rfl, N9q, K9, le9, V9⟩
  have N9 := Fr.app N3 N9q
  show End _ _ _ _ _ _ _ (T9.setTop (mkF m 21 #[.val (.int x0)] [(.ref ba), (.ref rs), (.ref rs)]))
  refine k_iconst X9 hx (v := (0 : Int32)) rfl (q := 22) rfl (hb hby d16_21) ?_
  have ge_rs : n0 ≤ rs := Nat.le_trans Z0 (Nat.le_of_eq g5.symm)
  have Gu10 := (A5.keep K9)
  have Gu11 := (F7.keep K9 nin0)
  have Gu12 := (F6.keep K9 nin0)
  refine k_callI X9 hx hZ (y := (⟨"java/lang/String", "<init>", "([BB)V"⟩ : MethodName)) hown rfl (hw _ (List.mem_of_getElem? (i := 96) rfl)) (hw _ (List.mem_of_getElem? (i := 97) rfl)) (hw _ (List.mem_of_getElem? (i := 6) rfl)) (hw _ (List.mem_of_getElem? (i := 98) rfl)) (by decide) 1 rfl (rm19 l Z a0 hw rs ba (0 : Int32) T9.heap n0 ge_rs Gu10 Gu11 Gu12 rfl) (by decide) (by decide) (by decide) (by decide) (by rw [hml]; rfl) (a := rs) (as := [(.ref ba), (.int (0 : Int32))]) (rest := [(.ref rs)]) pd_6 rfl (by first | exact Nat.le_refl _ | simp [Value.category]) (q := 25) rfl (hb hby d16_22) ?_
  rintro _ T13 L13 X13 ⟨rfl, N13q, K13, G113, G213⟩
  have N13 := Fr.app N9 N13q
  show End _ _ _ _ _ _ _ (T13.setTop (mkF m 25 #[.val (.int x0)] [(.ref rs)]))
  have Kp14 : Keep h0 h5 [] := Keep.trans (Keep.refl h0 []) K5 all0
  have Kp15 : Keep h0 T9.heap [] := Keep.trans Kp14 K9 all0
  have Kp16 : Keep h0 T13.heap [] := Keep.trans Kp15 K13 (allS (Or.inr (Nat.le_trans (Keep.refl h0 []).1 (Nat.le_of_eq g5.symm))) all0)
  have Gu17 := (Gu10.keep K13)
  have ne_rs_ba : rs ≠ ba := Nat.ne_of_lt (Nat.lt_of_lt_of_le (A5).lt le9)
  have Gu18 := (V9.keep K13 (ninS (Ne.symm ne_rs_ba) nin0))
  exact k_retA X13 hx hlk (by decide) (by decide) hret rfl rfl (hb hby d16_25) ⟨rs, ba, rfl, N13, Kp16, (Nat.le_of_eq g5.symm), Gu17, G113, G213, Gu18⟩
theorem own_lat (x : Int32) : ¬ (255 : Int32) < (x &&& (255 : Int32)).toUInt32.toUInt16.toUInt32.toInt32 ∧ ¬ (255 : Int32) < (nar .char (x &&& (255 : Int32)).toUInt32.toUInt16.toUInt32.toInt32) := by
  have e := c_mask x 255 8 (by decide) (by decide)
  have t : ((2 ^ 8 : Nat) : Int) = 256 := by decide
  rw [t] at e
  have a := c_i2c (x &&& (255 : Int32))
  have b := c_i2c (x &&& (255 : Int32)).toUInt32.toUInt16.toUInt32.toInt32
  have k : (255 : Int32).toInt = 255 := by decide
  rw [Int32.lt_iff_toInt_lt, Int32.lt_iff_toInt_lt]
  refine ⟨by omega, ?_⟩
  show ¬ (255 : Int32).toInt < ((x &&& (255 : Int32)).toUInt32.toUInt16.toUInt32.toInt32.toUInt32.toUInt16.toUInt32.toInt32).toInt
  omega
def own_cs (x0 : Int32) : Nat → Int32 := fun t => if t = 2 then nar .char (((x0.toUInt32 >>> ((16 : Int32) &&& 31).toUInt32).toInt32) &&& (255 : Int32)).toUInt32.toUInt16.toUInt32.toInt32 else if t = 1 then nar .char (((x0.toUInt32 >>> ((8 : Int32) &&& 31).toUInt32).toInt32) &&& (255 : Int32)).toUInt32.toUInt16.toUInt32.toInt32 else nar .char (x0 &&& (255 : Int32)).toUInt32.toUInt16.toUInt32.toInt32
def own_dr (x0 : Int32) (n : Nat) : Nat → Value := fun t => if n = 1 then .int (nar .byte ((x0 &&& (255 : Int32)).toUInt32.toUInt16.toUInt32.toInt32).toInt8.toInt32) else .int (nar .byte (own_cs x0 t).toInt8.toInt32)
theorem own_cs_lat (x0 : Int32) (t : Nat) : ¬ (255 : Int32) < own_cs x0 t := by
  unfold own_cs
  by_cases q : t = 2
  · rw [if_pos q]; exact (own_lat _).2
  · rw [if_neg q]
    by_cases r : t = 1
    · rw [if_pos r]; exact (own_lat _).2
    · rw [if_neg r]; exact (own_lat _).2
theorem d1_0 : decode method_2_code 0 = .ok (.iload_n 0, 1) := by decide +kernel
theorem d1_1 : decode method_2_code 1 = .ok (.sipush 255, 3) := by decide +kernel
theorem d1_4 : decode method_2_code 4 = .ok (.iand, 1) := by decide +kernel
theorem d1_5 : decode method_2_code 5 = .ok (.i2c, 1) := by decide +kernel
theorem d1_6 : decode method_2_code 6 = .ok (.istore_n 2, 1) := by decide +kernel
theorem d1_7 : decode method_2_code 7 = .ok (.iload_n 0, 1) := by decide +kernel
theorem d1_8 : decode method_2_code 8 = .ok (.bipush 8, 2) := by decide +kernel
theorem d1_10 : decode method_2_code 10 = .ok (.iushr, 1) := by decide +kernel
theorem d1_11 : decode method_2_code 11 = .ok (.sipush 255, 3) := by decide +kernel
theorem d1_14 : decode method_2_code 14 = .ok (.iand, 1) := by decide +kernel
theorem d1_15 : decode method_2_code 15 = .ok (.i2c, 1) := by decide +kernel
theorem d1_16 : decode method_2_code 16 = .ok (.istore_n 3, 1) := by decide +kernel
theorem d1_17 : decode method_2_code 17 = .ok (.iload_n 0, 1) := by decide +kernel
theorem d1_18 : decode method_2_code 18 = .ok (.bipush 16, 2) := by decide +kernel
theorem d1_20 : decode method_2_code 20 = .ok (.iushr, 1) := by decide +kernel
theorem d1_21 : decode method_2_code 21 = .ok (.sipush 255, 3) := by decide +kernel
theorem d1_24 : decode method_2_code 24 = .ok (.iand, 1) := by decide +kernel
theorem d1_25 : decode method_2_code 25 = .ok (.i2c, 1) := by decide +kernel
theorem d1_26 : decode method_2_code 26 = .ok (.istore 4, 2) := by decide +kernel
theorem d1_28 : decode method_2_code 28 = .ok (.iload_n 1, 1) := by decide +kernel
theorem d1_29 : decode method_2_code 29 = .ok (.ifCond .ne 14, 3) := by decide +kernel
theorem d1_32 : decode method_2_code 32 = .ok (.new 7, 3) := by decide +kernel
theorem d1_35 : decode method_2_code 35 = .ok (.dup, 1) := by decide +kernel
theorem d1_36 : decode method_2_code 36 = .ok (.iconst 0, 1) := by decide +kernel
theorem d1_37 : decode method_2_code 37 = .ok (.newarray .char, 2) := by decide +kernel
theorem d1_39 : decode method_2_code 39 = .ok (.invokespecial 9, 3) := by decide +kernel
theorem d1_42 : decode method_2_code 42 = .ok (.areturn, 1) := by decide +kernel
theorem d1_43 : decode method_2_code 43 = .ok (.iload_n 1, 1) := by decide +kernel
theorem d1_44 : decode method_2_code 44 = .ok (.iconst 1, 1) := by decide +kernel
theorem d1_45 : decode method_2_code 45 = .ok (.if_icmp .ne 8, 3) := by decide +kernel
theorem d1_48 : decode method_2_code 48 = .ok (.iload_n 2, 1) := by decide +kernel
theorem d1_49 : decode method_2_code 49 = .ok (.invokestatic 12, 3) := by decide +kernel
theorem d1_52 : decode method_2_code 52 = .ok (.areturn, 1) := by decide +kernel
theorem d1_53 : decode method_2_code 53 = .ok (.iload_n 1, 1) := by decide +kernel
theorem d1_54 : decode method_2_code 54 = .ok (.iconst 2, 1) := by decide +kernel
theorem d1_55 : decode method_2_code 55 = .ok (.if_icmp .ne 22, 3) := by decide +kernel
theorem d1_58 : decode method_2_code 58 = .ok (.new 7, 3) := by decide +kernel
theorem d1_61 : decode method_2_code 61 = .ok (.dup, 1) := by decide +kernel
theorem d1_62 : decode method_2_code 62 = .ok (.iconst 2, 1) := by decide +kernel
theorem d1_63 : decode method_2_code 63 = .ok (.newarray .char, 2) := by decide +kernel
theorem d1_65 : decode method_2_code 65 = .ok (.dup, 1) := by decide +kernel
theorem d1_66 : decode method_2_code 66 = .ok (.iconst 0, 1) := by decide +kernel
theorem d1_67 : decode method_2_code 67 = .ok (.iload_n 2, 1) := by decide +kernel
theorem d1_68 : decode method_2_code 68 = .ok (.castore, 1) := by decide +kernel
theorem d1_69 : decode method_2_code 69 = .ok (.dup, 1) := by decide +kernel
theorem d1_70 : decode method_2_code 70 = .ok (.iconst 1, 1) := by decide +kernel
theorem d1_71 : decode method_2_code 71 = .ok (.iload_n 3, 1) := by decide +kernel
theorem d1_72 : decode method_2_code 72 = .ok (.castore, 1) := by decide +kernel
theorem d1_73 : decode method_2_code 73 = .ok (.invokespecial 9, 3) := by decide +kernel
theorem d1_76 : decode method_2_code 76 = .ok (.areturn, 1) := by decide +kernel
theorem d1_77 : decode method_2_code 77 = .ok (.new 7, 3) := by decide +kernel
theorem d1_80 : decode method_2_code 80 = .ok (.dup, 1) := by decide +kernel
theorem d1_81 : decode method_2_code 81 = .ok (.iconst 3, 1) := by decide +kernel
theorem d1_82 : decode method_2_code 82 = .ok (.newarray .char, 2) := by decide +kernel
theorem d1_84 : decode method_2_code 84 = .ok (.dup, 1) := by decide +kernel
theorem d1_85 : decode method_2_code 85 = .ok (.iconst 0, 1) := by decide +kernel
theorem d1_86 : decode method_2_code 86 = .ok (.iload_n 2, 1) := by decide +kernel
theorem d1_87 : decode method_2_code 87 = .ok (.castore, 1) := by decide +kernel
theorem d1_88 : decode method_2_code 88 = .ok (.dup, 1) := by decide +kernel
theorem d1_89 : decode method_2_code 89 = .ok (.iconst 1, 1) := by decide +kernel
theorem d1_90 : decode method_2_code 90 = .ok (.iload_n 3, 1) := by decide +kernel
theorem d1_91 : decode method_2_code 91 = .ok (.castore, 1) := by decide +kernel
theorem d1_92 : decode method_2_code 92 = .ok (.dup, 1) := by decide +kernel
theorem d1_93 : decode method_2_code 93 = .ok (.iconst 2, 1) := by decide +kernel
theorem d1_94 : decode method_2_code 94 = .ok (.iload 4, 2) := by decide +kernel
theorem d1_96 : decode method_2_code 96 = .ok (.castore, 1) := by decide +kernel
theorem d1_97 : decode method_2_code 97 = .ok (.invokespecial 9, 3) := by decide +kernel
theorem d1_100 : decode method_2_code 100 = .ok (.areturn, 1) := by decide +kernel
theorem ef_1 (m : MethodId) (x0 : Int32) (x1 : Int32) : entryFrame m #[(.int x0), (.int x1)] 5 = mkF m 0 #[.val (.int x0), .val (.int x1), .unset, .unset, .unset] [] := by first | (simp [entryFrame, mkF, argsToLocals, Value.category]; done) | rfl
set_option maxRecDepth 65536 in
set_option maxHeartbeats 40000000 in
theorem rm1 (l : Launch) (Z : State) (a0 : Array Value) (hw : ∀ d ∈ tables_1, d.before a0 Z = true) (x0 : Int32) (x1 : Int32) (h0 : Heap) (n0 : Nat) (Z0 : n0 ≤ h0.size) (O0 : Old Z n0 h0) (N : Nat) (hx1 : Ix x1 N) (hN3 : N ≤ 3) (cs : Int32) (hcs : ¬ cs = (0 : Int32)) (hS : Sta Z Z.heap "java/lang/String" "COMPACT_STRINGS" "Z" (.int cs)) :
    ConW l Z consts_1 (⟨"com/example/keyshelf/keyshelf/RuleResultBrokenPinLaw", "draw", "(II)Ljava/lang/String;"⟩ : MethodName) method_2_code 5 (some (.object "java/lang/String")) [] ({ frames := 4, cells := 4, slots := 16, locals := 66 } : Room) #[(.int x0), (.int x1)] h0 (fun v h L => ∃ a b : Addr, v = some (.ref a) ∧ Fr n0 L ∧ Keep h0 h [] ∧ h0.size ≤ a ∧ Exa Z h a "java/lang/String" ∧ Fld Z h a "java/lang/String" "value" "[B" (.ref b) ∧ Fld Z h a "java/lang/String" "coder" "B" (.int (0 : Int32)) ∧ Ary Z h b .byte N (own_dr x0 N)) := by
  refine ConW.of (plainFor_of_name pn_3) (own_EL hw) ?_
  intro p e s m below meth c s₁ vm0 X0 hx hby hml hown hnm hret hlk hZ e0 W0
  refine End.cast ?_ (ef_1 m x0 x1)
  have N0 := Fr.nil n0
  refine k_iloadN X0 hx (q := 1) rfl (hb hby d1_0) rfl ?_
  refine k_sipush X0 hx (v := (255 : Int32)) rfl (q := 4) rfl (hb hby d1_1) ?_
  refine k_iand X0 hx (q := 5) rfl (hb hby d1_4) ?_
  refine k_i2c X0 hx (q := 6) rfl (hb hby d1_5) ?_
  refine k_istoreN X0 hx (L' := #[.val (.int x0), .val (.int x1), .val (.int (x0 &&& (255 : Int32)).toUInt32.toUInt16.toUInt32.toInt32), .unset, .unset]) (q := 7) rfl (hb hby d1_6) rfl ?_
  refine k_iloadN X0 hx (q := 8) rfl (hb hby d1_7) rfl ?_
  refine k_bipush X0 hx (v := (8 : Int32)) rfl (q := 10) rfl (hb hby d1_8) ?_
  refine k_iushr X0 hx (q := 11) rfl (hb hby d1_10) ?_
  refine k_sipush X0 hx (v := (255 : Int32)) rfl (q := 14) rfl (hb hby d1_11) ?_
  refine k_iand X0 hx (q := 15) rfl (hb hby d1_14) ?_
  refine k_i2c X0 hx (q := 16) rfl (hb hby d1_15) ?_
  refine k_istoreN X0 hx (L' := #[.val (.int x0), .val (.int x1), .val (.int (x0 &&& (255 : Int32)).toUInt32.toUInt16.toUInt32.toInt32), .val (.int (((x0.toUInt32 >>> ((8 : Int32) &&& 31).toUInt32).toInt32) &&& (255 : Int32)).toUInt32.toUInt16.toUInt32.toInt32), .unset]) (q := 17) rfl (hb hby d1_16) rfl ?_
  refine k_iloadN X0 hx (q := 18) rfl (hb hby d1_17) rfl ?_
  refine k_bipush X0 hx (v := (16 : Int32)) rfl (q := 20) rfl (hb hby d1_18) ?_
  refine k_iushr X0 hx (q := 21) rfl (hb hby d1_20) ?_
  refine k_sipush X0 hx (v := (255 : Int32)) rfl (q := 24) rfl (hb hby d1_21) ?_
  refine k_iand X0 hx (q := 25) rfl (hb hby d1_24) ?_
  refine k_i2c X0 hx (q := 26) rfl (hb hby d1_25) ?_
  refine k_istore X0 hx (L' := #[.val (.int x0), .val (.int x1), .val (.int (x0 &&& (255 : Int32)).toUInt32.toUInt16.toUInt32.toInt32), .val (.int (((x0.toUInt32 >>> ((8 : Int32) &&& 31).toUInt32).toInt32) &&& (255 : Int32)).toUInt32.toUInt16.toUInt32.toInt32), .val (.int (((x0.toUInt32 >>> ((16 : Int32) &&& 31).toUInt32).toInt32) &&& (255 : Int32)).toUInt32.toUInt16.toUInt32.toInt32)]) (q := 28) rfl (hb hby d1_26) rfl ?_
  refine k_iloadN X0 hx (q := 29) rfl (hb hby d1_28) rfl ?_
  refine k_if_ne X0 hx (q1 := 43) (q := 32) (by decide) (by decide) rfl (hb hby d1_29) (fun hc1 => ?_) (fun hc1 => ?_)
  · refine k_iloadN X0 hx (q := 44) rfl (hb hby d1_43) rfl ?_
    refine k_iconst X0 hx (v := (1 : Int32)) rfl (q := 45) rfl (hb hby d1_44) ?_
    refine k_icmp_ne X0 hx (q1 := 53) (q := 48) (by decide) (by decide) rfl (hb hby d1_45) (fun hc17 => ?_) (fun hc17 => ?_)
    · refine k_iloadN X0 hx (q := 54) rfl (hb hby d1_53) rfl ?_
      refine k_iconst X0 hx (v := (2 : Int32)) rfl (q := 55) rfl (hb hby d1_54) ?_
      refine k_icmp_ne X0 hx (q1 := 77) (q := 58) (by decide) (by decide) rfl (hb hby d1_55) (fun hc21 => ?_) (fun hc21 => ?_)
      · have hN : N = 3 := by
          have q1 := mt (own_eqi hx1 (m := 0) (n := 0) ⟨by decide, by decide⟩).mpr hc1
          have q2 := mt (own_eqi hx1 (m := 1) (n := 1) ⟨by decide, by decide⟩).mpr hc17
          have q3 := mt (own_eqi hx1 (m := 2) (n := 2) ⟨by decide, by decide⟩).mpr hc21
          omega
        refine k_new X0 hx hZ hown (hw _ (List.mem_of_getElem? (i := 4) rfl)) (hw _ (List.mem_of_getElem? (i := 5) rfl)) (hw _ (List.mem_of_getElem? (i := 6) rfl)) e0 (q := 80) rfl (hb hby d1_77) (by decide) (by decide) ?_
        intro T47 h47 rs X47 e47 g47 E47 A47 D47
        have K47 := Keep.of_ext E47
        have F48 : Fld Z h47 rs "java/lang/String" "coder" "B" (.int (0 : Int32)) := D47 (Or.inr (hw _ (List.mem_of_getElem? (i := 31) rfl))) (ty := .byte) (by decide)
        have F49 : Fld Z h47 rs "java/lang/String" "value" "[B" .null := D47 (Or.inr (hw _ (List.mem_of_getElem? (i := 33) rfl))) (ty := (.array .byte)) (by decide)
        refine k_dup X47 hx (q := 81) rfl (hb hby d1_80) rfl ?_
        refine k_iconst X47 hx (v := (3 : Int32)) rfl (q := 82) rfl (hb hby d1_81) ?_
        refine k_newP X47 hx hZ (hw _ (List.mem_of_getElem? (i := 7) rfl)) e47 (q := 84) rfl (hb hby d1_82) (by decide) (cap := 3) (by decide) (by decide) (by decide) (by decide) ?_
        intro T50 h50 ca k50 X50 e50 g50 E50 A50
        have K50 := Keep.of_ext E50
        have V50 : Ary Z h50 ca .char 3 (fun _ => .int (0 : Int32)) := Ary.new A50 (by decide) rfl
        refine k_dup X50 hx (q := 85) rfl (hb hby d1_84) rfl ?_
        refine k_iconst X50 hx (v := (0 : Int32)) rfl (q := 86) rfl (hb hby d1_85) ?_
        refine k_iloadN X50 hx (q := 87) rfl (hb hby d1_86) rfl ?_
        have Sz52 : n0 ≤ h47.size := Nat.le_trans Z0 K47.1
        have ge_ca : n0 ≤ ca := Nat.le_trans Sz52 (Nat.le_of_eq g50.symm)
        refine k_asC X50 hx hZ e50 0 (q := 88) rfl (hb hby d1_87) V50 ⟨by decide, by decide⟩ (by decide) ?_
        intro T51 h51 X51 e51 W51 V51
        have K51 := Keep.of_wr W51
        have N51 := Fr.snoc X51 N0 ge_ca
        refine k_dup X51 hx (q := 89) rfl (hb hby d1_88) rfl ?_
        refine k_iconst X51 hx (v := (1 : Int32)) rfl (q := 90) rfl (hb hby d1_89) ?_
        refine k_iloadN X51 hx (q := 91) rfl (hb hby d1_90) rfl ?_
        refine k_asC X51 hx hZ e51 1 (q := 92) rfl (hb hby d1_91) V51 ⟨by decide, by decide⟩ (by decide) ?_
        intro T53 h53 X53 e53 W53 V53
        have K53 := Keep.of_wr W53
        have N53 := Fr.snoc X53 N51 ge_ca
        refine k_dup X53 hx (q := 93) rfl (hb hby d1_92) rfl ?_
        refine k_iconst X53 hx (v := (2 : Int32)) rfl (q := 94) rfl (hb hby d1_93) ?_
        refine k_iload X53 hx (q := 96) rfl (hb hby d1_94) rfl ?_
        refine k_asC X53 hx hZ e53 2 (q := 97) rfl (hb hby d1_96) V53 ⟨by decide, by decide⟩ (by decide) ?_
        intro T54 h54 X54 e54 W54 V54
        have K54 := Keep.of_wr W54
        have N54 := Fr.snoc X54 N53 ge_ca
        have Vc : Ary Z h54 ca .char 3 (fun t => .int (own_cs x0 t)) := V54.congr fun t ht => by
          have : t = 0 ∨ t = 1 ∨ t = 2 := by omega
          rcases this with rfl | rfl | rfl <;> rfl
        have Od55 : Old Z n0 h47 := Old.keep O0 K47 all0
        have Od56 : Old Z n0 h50 := Old.keep Od55 K50 all0
        have Od57 : Old Z n0 h51 := Old.keep Od56 K51 (allS ge_ca all0)
        have Od58 : Old Z n0 h53 := Old.keep Od57 K53 (allS ge_ca all0)
        have Od59 : Old Z n0 h54 := Old.keep Od58 K54 (allS ge_ca all0)
        have Sz63 : n0 ≤ h50.size := Nat.le_trans Sz52 K50.1
        have Sz62 : n0 ≤ h51.size := Nat.le_trans Sz63 K51.1
        have Sz61 : n0 ≤ h53.size := Nat.le_trans Sz62 K53.1
        have Sz60 : n0 ≤ h54.size := Nat.le_trans Sz61 K54.1
        have ge_rs : n0 ≤ rs := Nat.le_trans Z0 (Nat.le_of_eq g47.symm)
        have Gu64 := ((((A47.keep K50).keep K51).keep K53).keep K54)
        have ne_rs_ca : rs ≠ ca := Nat.ne_of_lt (Nat.lt_of_lt_of_le (A47).lt (Nat.le_of_eq g50.symm))
        have Gu65 := ((((F49.keep K50 nin0).keep K51 (ninS ne_rs_ca nin0)).keep K53 (ninS ne_rs_ca nin0)).keep K54 (ninS ne_rs_ca nin0))
        have Gu66 := ((((F48.keep K50 nin0).keep K51 (ninS ne_rs_ca nin0)).keep K53 (ninS ne_rs_ca nin0)).keep K54 (ninS ne_rs_ca nin0))
        refine k_callI X54 hx hZ (y := (⟨"java/lang/String", "<init>", "([C)V"⟩ : MethodName)) hown rfl (hw _ (List.mem_of_getElem? (i := 8) rfl)) (hw _ (List.mem_of_getElem? (i := 9) rfl)) (hw _ (List.mem_of_getElem? (i := 6) rfl)) (hw _ (List.mem_of_getElem? (i := 10) rfl)) (by decide) 1 e54 (rm2 l Z a0 hw rs ca h54 n0 Sz60 3 (by decide) (by decide) (own_cs x0) (fun t _ => own_cs_lat x0 t) (by decide) cs hcs (hS.ext Od59.2) ge_rs Gu64 Gu65 Gu66 Vc) (by decide) (by decide) (by decide) (by decide) (by rw [hml]; rfl) (a := rs) (as := [(.ref ca)]) (rest := [(.ref rs)]) pd_7 rfl (by first | exact Nat.le_refl _ | simp [Value.category]) (q := 100) rfl (hb hby d1_97) ?_
        rintro _ T67 L67 X67 ⟨rfl, N67q, K67, b67, le67, G167, G267, V67⟩
        have N67 := Fr.app N54 N67q
        show EndG _ _ _ _ _ (T67.setTop (mkF m 100 #[.val (.int x0), .val (.int x1), .val (.int (x0 &&& (255 : Int32)).toUInt32.toUInt16.toUInt32.toInt32), .val (.int (((x0.toUInt32 >>> ((8 : Int32) &&& 31).toUInt32).toInt32) &&& (255 : Int32)).toUInt32.toUInt16.toUInt32.toInt32), .val (.int (((x0.toUInt32 >>> ((16 : Int32) &&& 31).toUInt32).toInt32) &&& (255 : Int32)).toUInt32.toUInt16.toUInt32.toInt32)] [(.ref rs)]))
        have Kp68 : Keep h0 h47 [] := Keep.trans (Keep.refl h0 []) K47 all0
        have Kp69 : Keep h0 h50 [] := Keep.trans Kp68 K50 all0
        have Kp70 : Keep h0 h51 [] := Keep.trans Kp69 K51 (allS (Or.inr (Nat.le_trans Kp68.1 (Nat.le_of_eq g50.symm))) all0)
        have Kp71 : Keep h0 h53 [] := Keep.trans Kp70 K53 (allS (Or.inr (Nat.le_trans Kp68.1 (Nat.le_of_eq g50.symm))) all0)
        have Kp72 : Keep h0 h54 [] := Keep.trans Kp71 K54 (allS (Or.inr (Nat.le_trans Kp68.1 (Nat.le_of_eq g50.symm))) all0)
        have Kp73 : Keep h0 T67.heap [] := Keep.trans Kp72 K67 (allS (Or.inr (Nat.le_trans (Keep.refl h0 []).1 (Nat.le_of_eq g47.symm))) all0)
        have Gu74 := (Gu64.keep K67)
        have Wd75 := Wd.keep W0 Kp73 no_safe
        exact kw_retA X67 hx Wd75 hlk (by decide) (by decide) hret rfl rfl (hb hby d1_100) ⟨rs, b67, rfl, N67, Kp73, (Nat.le_of_eq g47.symm), Gu74, G167, G267, by rw [hN]; exact V67⟩
      · have hN : N = 2 := (own_eqi hx1 (m := 2) (n := 2) ⟨by decide, by decide⟩).mp hc21
        refine k_new X0 hx hZ hown (hw _ (List.mem_of_getElem? (i := 4) rfl)) (hw _ (List.mem_of_getElem? (i := 5) rfl)) (hw _ (List.mem_of_getElem? (i := 6) rfl)) e0 (q := 61) rfl (hb hby d1_58) (by decide) (by decide) ?_
        intro T22 h22 rs X22 e22 g22 E22 A22 D22
        have K22 := Keep.of_ext E22
        have F23 : Fld Z h22 rs "java/lang/String" "coder" "B" (.int (0 : Int32)) := D22 (Or.inr (hw _ (List.mem_of_getElem? (i := 31) rfl))) (ty := .byte) (by decide)
        have F24 : Fld Z h22 rs "java/lang/String" "value" "[B" .null := D22 (Or.inr (hw _ (List.mem_of_getElem? (i := 33) rfl))) (ty := (.array .byte)) (by decide)
        refine k_dup X22 hx (q := 62) rfl (hb hby d1_61) rfl ?_
        refine k_iconst X22 hx (v := (2 : Int32)) rfl (q := 63) rfl (hb hby d1_62) ?_
        refine k_newP X22 hx hZ (hw _ (List.mem_of_getElem? (i := 7) rfl)) e22 (q := 65) rfl (hb hby d1_63) (by decide) (cap := 2) (by decide) (by decide) (by decide) (by decide) ?_
        intro T25 h25 ca k25 X25 e25 g25 E25 A25
        have K25 := Keep.of_ext E25
        have V25 : Ary Z h25 ca .char 2 (fun _ => .int (0 : Int32)) := Ary.new A25 (by decide) rfl
        refine k_dup X25 hx (q := 66) rfl (hb hby d1_65) rfl ?_
        refine k_iconst X25 hx (v := (0 : Int32)) rfl (q := 67) rfl (hb hby d1_66) ?_
        refine k_iloadN X25 hx (q := 68) rfl (hb hby d1_67) rfl ?_
        have Sz27 : n0 ≤ h22.size := Nat.le_trans Z0 K22.1
        have ge_ca : n0 ≤ ca := Nat.le_trans Sz27 (Nat.le_of_eq g25.symm)
        refine k_asC X25 hx hZ e25 0 (q := 69) rfl (hb hby d1_68) V25 ⟨by decide, by decide⟩ (by decide) ?_
        intro T26 h26 X26 e26 W26 V26
        have K26 := Keep.of_wr W26
        have N26 := Fr.snoc X26 N0 ge_ca
        refine k_dup X26 hx (q := 70) rfl (hb hby d1_69) rfl ?_
        refine k_iconst X26 hx (v := (1 : Int32)) rfl (q := 71) rfl (hb hby d1_70) ?_
        refine k_iloadN X26 hx (q := 72) rfl (hb hby d1_71) rfl ?_
        refine k_asC X26 hx hZ e26 1 (q := 73) rfl (hb hby d1_72) V26 ⟨by decide, by decide⟩ (by decide) ?_
        intro T28 h28 X28 e28 W28 V28
        have K28 := Keep.of_wr W28
        have N28 := Fr.snoc X28 N26 ge_ca
        have Vc : Ary Z h28 ca .char 2 (fun t => .int (own_cs x0 t)) := V28.congr fun t ht => by
          have : t = 0 ∨ t = 1 := by omega
          rcases this with rfl | rfl <;> rfl
        have Od29 : Old Z n0 h22 := Old.keep O0 K22 all0
        have Od30 : Old Z n0 h25 := Old.keep Od29 K25 all0
        have Od31 : Old Z n0 h26 := Old.keep Od30 K26 (allS ge_ca all0)
        have Od32 : Old Z n0 h28 := Old.keep Od31 K28 (allS ge_ca all0)
        have Sz35 : n0 ≤ h25.size := Nat.le_trans Sz27 K25.1
        have Sz34 : n0 ≤ h26.size := Nat.le_trans Sz35 K26.1
        have Sz33 : n0 ≤ h28.size := Nat.le_trans Sz34 K28.1
        have ge_rs : n0 ≤ rs := Nat.le_trans Z0 (Nat.le_of_eq g22.symm)
        have Gu36 := (((A22.keep K25).keep K26).keep K28)
        have ne_rs_ca : rs ≠ ca := Nat.ne_of_lt (Nat.lt_of_lt_of_le (A22).lt (Nat.le_of_eq g25.symm))
        have Gu37 := (((F24.keep K25 nin0).keep K26 (ninS ne_rs_ca nin0)).keep K28 (ninS ne_rs_ca nin0))
        have Gu38 := (((F23.keep K25 nin0).keep K26 (ninS ne_rs_ca nin0)).keep K28 (ninS ne_rs_ca nin0))
        refine k_callI X28 hx hZ (y := (⟨"java/lang/String", "<init>", "([C)V"⟩ : MethodName)) hown rfl (hw _ (List.mem_of_getElem? (i := 8) rfl)) (hw _ (List.mem_of_getElem? (i := 9) rfl)) (hw _ (List.mem_of_getElem? (i := 6) rfl)) (hw _ (List.mem_of_getElem? (i := 10) rfl)) (by decide) 1 e28 (rm2 l Z a0 hw rs ca h28 n0 Sz33 2 (by decide) (by decide) (own_cs x0) (fun t _ => own_cs_lat x0 t) (by decide) cs hcs (hS.ext Od32.2) ge_rs Gu36 Gu37 Gu38 Vc) (by decide) (by decide) (by decide) (by decide) (by rw [hml]; rfl) (a := rs) (as := [(.ref ca)]) (rest := [(.ref rs)]) pd_7 rfl (by first | exact Nat.le_refl _ | simp [Value.category]) (q := 76) rfl (hb hby d1_73) ?_
        rintro _ T39 L39 X39 ⟨rfl, N39q, K39, b39, le39, G139, G239, V39⟩
        have N39 := Fr.app N28 N39q
        show EndG _ _ _ _ _ (T39.setTop (mkF m 76 #[.val (.int x0), .val (.int x1), .val (.int (x0 &&& (255 : Int32)).toUInt32.toUInt16.toUInt32.toInt32), .val (.int (((x0.toUInt32 >>> ((8 : Int32) &&& 31).toUInt32).toInt32) &&& (255 : Int32)).toUInt32.toUInt16.toUInt32.toInt32), .val (.int (((x0.toUInt32 >>> ((16 : Int32) &&& 31).toUInt32).toInt32) &&& (255 : Int32)).toUInt32.toUInt16.toUInt32.toInt32)] [(.ref rs)]))
        have Kp40 : Keep h0 h22 [] := Keep.trans (Keep.refl h0 []) K22 all0
        have Kp41 : Keep h0 h25 [] := Keep.trans Kp40 K25 all0
        have Kp42 : Keep h0 h26 [] := Keep.trans Kp41 K26 (allS (Or.inr (Nat.le_trans Kp40.1 (Nat.le_of_eq g25.symm))) all0)
        have Kp43 : Keep h0 h28 [] := Keep.trans Kp42 K28 (allS (Or.inr (Nat.le_trans Kp40.1 (Nat.le_of_eq g25.symm))) all0)
        have Kp44 : Keep h0 T39.heap [] := Keep.trans Kp43 K39 (allS (Or.inr (Nat.le_trans (Keep.refl h0 []).1 (Nat.le_of_eq g22.symm))) all0)
        have Gu45 := (Gu36.keep K39)
        have Wd46 := Wd.keep W0 Kp44 no_safe
        exact kw_retA X39 hx Wd46 hlk (by decide) (by decide) hret rfl rfl (hb hby d1_76) ⟨rs, b39, rfl, N39, Kp44, (Nat.le_of_eq g22.symm), Gu45, G139, G239, by rw [hN]; exact V39⟩
    · have hN : N = 1 := (own_eqi hx1 (m := 1) (n := 1) ⟨by decide, by decide⟩).mp hc17
      refine k_iloadN X0 hx (q := 49) rfl (hb hby d1_48) rfl ?_
      refine k_callS X0 hx hZ (y := (⟨"java/lang/String", "valueOf", "(C)Ljava/lang/String;"⟩ : MethodName)) hown (hw _ (List.mem_of_getElem? (i := 87) rfl)) (hw _ (List.mem_of_getElem? (i := 88) rfl)) (hw _ (List.mem_of_getElem? (i := 6) rfl)) (hw _ (List.mem_of_getElem? (i := 89) rfl)) (by decide) 0 e0 (rm16 l Z a0 hw (x0 &&& (255 : Int32)).toUInt32.toUInt16.toUInt32.toInt32 h0 n0 Z0 O0 (own_lat _).1 cs hcs hS) (by decide) (by decide) (by decide) (by decide) (by rw [hml]; rfl) (as := [(.int (x0 &&& (255 : Int32)).toUInt32.toUInt16.toUInt32.toInt32)]) (rest := []) pd_8 rfl (by first | exact Nat.le_refl _ | simp [Value.category]) (q := 52) rfl (hb hby d1_49) ?_
      rintro _ T18 L18 X18 ⟨rs, b18, rfl, N18q, K18, le18, E18, G118, G218, V18⟩
      have N18 := Fr.app N0 N18q
      show EndG _ _ _ _ _ (T18.setTop (mkF m 52 #[.val (.int x0), .val (.int x1), .val (.int (x0 &&& (255 : Int32)).toUInt32.toUInt16.toUInt32.toInt32), .val (.int (((x0.toUInt32 >>> ((8 : Int32) &&& 31).toUInt32).toInt32) &&& (255 : Int32)).toUInt32.toUInt16.toUInt32.toInt32), .val (.int (((x0.toUInt32 >>> ((16 : Int32) &&& 31).toUInt32).toInt32) &&& (255 : Int32)).toUInt32.toUInt16.toUInt32.toInt32)] [(.ref rs)]))
      have Kp19 : Keep h0 T18.heap [] := Keep.trans (Keep.refl h0 []) K18 all0
      have Wd20 := Wd.keep W0 Kp19 no_safe
      exact kw_retA X18 hx Wd20 hlk (by decide) (by decide) hret rfl rfl (hb hby d1_52) ⟨rs, b18, rfl, N18, Kp19, le18, E18, G118, G218, by rw [hN]; exact V18⟩
  · have hN : N = 0 := (own_eqi hx1 (m := 0) (n := 0) ⟨by decide, by decide⟩).mp hc1
    refine k_new X0 hx hZ hown (hw _ (List.mem_of_getElem? (i := 4) rfl)) (hw _ (List.mem_of_getElem? (i := 5) rfl)) (hw _ (List.mem_of_getElem? (i := 6) rfl)) e0 (q := 35) rfl (hb hby d1_32) (by decide) (by decide) ?_
    intro T2 h2 rs X2 e2 g2 E2 A2 D2
    have K2 := Keep.of_ext E2
    have F3 : Fld Z h2 rs "java/lang/String" "coder" "B" (.int (0 : Int32)) := D2 (Or.inr (hw _ (List.mem_of_getElem? (i := 31) rfl))) (ty := .byte) (by decide)
    have F4 : Fld Z h2 rs "java/lang/String" "value" "[B" .null := D2 (Or.inr (hw _ (List.mem_of_getElem? (i := 33) rfl))) (ty := (.array .byte)) (by decide)
    refine k_dup X2 hx (q := 36) rfl (hb hby d1_35) rfl ?_
    refine k_iconst X2 hx (v := (0 : Int32)) rfl (q := 37) rfl (hb hby d1_36) ?_
    refine k_newP X2 hx hZ (hw _ (List.mem_of_getElem? (i := 7) rfl)) e2 (q := 39) rfl (hb hby d1_37) (by decide) (cap := 0) (by decide) (by decide) (by decide) (by decide) ?_
    intro T5 h5 ca k5 X5 e5 g5 E5 A5
    have K5 := Keep.of_ext E5
    have V5 : Ary Z h5 ca .char 0 (fun _ => .int (0 : Int32)) := Ary.new A5 (by decide) rfl
    have ge_rs : n0 ≤ rs := Nat.le_trans Z0 (Nat.le_of_eq g2.symm)
    have Gu6 := (A2.keep K5)
    have Gu7 := (F4.keep K5 nin0)
    have Gu8 := (F3.keep K5 nin0)
    have Sz10 : n0 ≤ h2.size := Nat.le_trans Z0 K2.1
    have Sz9 : n0 ≤ h5.size := Nat.le_trans Sz10 K5.1
    have Kp12 : Keep h0 h2 [] := Keep.trans (Keep.refl h0 []) K2 all0
    have Kp13 : Keep h0 h5 [] := Keep.trans Kp12 K5 all0
    have Wd14 := Wd.keep W0 Kp13 no_safe
    refine kw_callI X5 hx hZ (y := (⟨"java/lang/String", "<init>", "([C)V"⟩ : MethodName)) (a := rs) hown rfl (hw _ (List.mem_of_getElem? (i := 8) rfl)) (hw _ (List.mem_of_getElem? (i := 9) rfl)) (hw _ (List.mem_of_getElem? (i := 6) rfl)) (hw _ (List.mem_of_getElem? (i := 10) rfl)) (by decide) 1 e5 Wd14 (rm2E l Z a0 hw rs ca h5 n0 Sz9 ge_rs Gu6 Gu7 Gu8 _ V5) (by decide) (by decide) (by decide) (by decide) (by rw [hml]; rfl) (as := [(.ref ca)]) (rest := [(.ref rs)]) pd_7 rfl (by first | exact Nat.le_refl _ | simp [Value.category]) (q := 42) rfl (hb hby d1_39) ?_
    rintro _ T11 L11 X11 hZ hown W11 R11 ⟨rfl, N11q, K11, b11, g11, G111, G211, V11⟩
    have N11 := Fr.app N0 N11q
    show EndG _ _ _ _ _ (T11.setTop (mkF m 42 #[.val (.int x0), .val (.int x1), .val (.int (x0 &&& (255 : Int32)).toUInt32.toUInt16.toUInt32.toInt32), .val (.int (((x0.toUInt32 >>> ((8 : Int32) &&& 31).toUInt32).toInt32) &&& (255 : Int32)).toUInt32.toUInt16.toUInt32.toInt32), .val (.int (((x0.toUInt32 >>> ((16 : Int32) &&& 31).toUInt32).toInt32) &&& (255 : Int32)).toUInt32.toUInt16.toUInt32.toInt32)] [(.ref rs)]))
    have Kp15 : Keep h0 T11.heap [] := Keep.trans Kp13 K11 (allS (Or.inr (Nat.le_trans (Keep.refl h0 []).1 (Nat.le_of_eq g2.symm))) all0)
    have Gu16 := (Gu6.keep K11)
    exact kw_retA X11 hx W11 hlk (by decide) (by decide) hret rfl rfl (hb hby d1_42) ⟨rs, b11, rfl, N11, Kp15, (Nat.le_of_eq g2.symm), Gu16, G111, G211, by rw [hN]; exact V11.congr fun t ht => absurd ht (by omega)⟩
theorem d10_0 : decode jdk_30_method_1_code 0 = .ok (.aload_n 0, 1) := by decide +kernel
theorem d10_1 : decode jdk_30_method_1_code 1 = .ok (.invokespecial 1, 3) := by decide +kernel
theorem d10_4 : decode jdk_30_method_1_code 4 = .ok (.return_, 1) := by decide +kernel
theorem ef_10 (m : MethodId) (x0 : Addr) : entryFrame m #[(.ref x0)] 1 = mkF m 0 #[.val (.ref x0)] [] := by first | (simp [entryFrame, mkF, argsToLocals, Value.category]; done) | rfl
set_option maxRecDepth 65536 in
set_option maxHeartbeats 40000000 in
theorem rm10 (l : Launch) (Z : State) (a0 : Array Value) (hw : ∀ d ∈ tables_1, d.before a0 Z = true) (x0 : Addr) (h0 : Heap) (n0 : Nat) :
    Con l Z (⟨"java/lang/Record", "<init>", "()V"⟩ : MethodName) jdk_30_method_1_code 1 none [] ({ frames := 1, cells := 0, slots := 0, locals := 12 } : Room) #[(.ref x0)] h0 (fun v h L => v = none ∧ Fr n0 L ∧ h = h0) := by
  refine Con.of (plainFor_of_name pn_4) ?_
  intro p e s m below meth c s₁ X0 hx hby hml hown hnm hret hlk hZ e0
  refine End.cast ?_ (ef_10 m x0)
  have N0 := Fr.nil n0
  refine k_aloadN X0 hx (q := 1) rfl (hb hby d10_0) rfl rfl ?_
  refine k_initO X0 hx hZ hown (hw _ (List.mem_of_getElem? (i := 54) rfl)) (hw _ (List.mem_of_getElem? (i := 16) rfl)) (hw _ (List.mem_of_getElem? (i := 17) rfl)) e0 (q := 4) rfl (hb hby d10_1) (by rw [hml]; rfl) (by decide) 0 (by first | exact Nat.le_refl _ | simp [Value.category]) (by decide) ?_
  intro T1 X1 e1
  exact k_retV X1 hx hlk (by decide) (by decide) hret (hb hby d10_4) ⟨rfl, N0, e1⟩
theorem d9_0 : decode prog_6_method_1_code 0 = .ok (.aload_n 0, 1) := by decide +kernel
theorem d9_1 : decode prog_6_method_1_code 1 = .ok (.invokespecial 1, 3) := by decide +kernel
theorem d9_4 : decode prog_6_method_1_code 4 = .ok (.aload_n 0, 1) := by decide +kernel
theorem d9_5 : decode prog_6_method_1_code 5 = .ok (.aload_n 1, 1) := by decide +kernel
theorem d9_6 : decode prog_6_method_1_code 6 = .ok (.putfield 7, 3) := by decide +kernel
theorem d9_9 : decode prog_6_method_1_code 9 = .ok (.aload_n 0, 1) := by decide +kernel
theorem d9_10 : decode prog_6_method_1_code 10 = .ok (.aload_n 2, 1) := by decide +kernel
theorem d9_11 : decode prog_6_method_1_code 11 = .ok (.putfield 13, 3) := by decide +kernel
theorem d9_14 : decode prog_6_method_1_code 14 = .ok (.aload_n 0, 1) := by decide +kernel
theorem d9_15 : decode prog_6_method_1_code 15 = .ok (.aload_n 3, 1) := by decide +kernel
theorem d9_16 : decode prog_6_method_1_code 16 = .ok (.putfield 17, 3) := by decide +kernel
theorem d9_19 : decode prog_6_method_1_code 19 = .ok (.return_, 1) := by decide +kernel
theorem ef_9 (m : MethodId) (x0 : Addr) (x1 : Addr) (x2 : Addr) (x3 : Addr) : entryFrame m #[(.ref x0), (.ref x1), (.ref x2), (.ref x3)] 4 = mkF m 0 #[.val (.ref x0), .val (.ref x1), .val (.ref x2), .val (.ref x3)] [] := by first | (simp [entryFrame, mkF, argsToLocals, Value.category]; done) | rfl
set_option maxRecDepth 65536 in
set_option maxHeartbeats 40000000 in
theorem rm9 (l : Launch) (Z : State) (a0 : Array Value) (hw : ∀ d ∈ tables_1, d.before a0 Z = true) (x0 : Addr) (x1 : Addr) (x2 : Addr) (x3 : Addr) (h0 : Heap) (n0 : Nat) (ga : n0 ≤ x0) (E0 : Exa Z h0 x0 "com/example/keyshelf/keyshelf/RuleResult") (F_rule : Fld Z h0 x0 "com/example/keyshelf/keyshelf/RuleResult" "rule" "Ljava/lang/String;" .null) (F_outcome : Fld Z h0 x0 "com/example/keyshelf/keyshelf/RuleResult" "outcome" "Lcom/example/keyshelf/keyshelf/RuleResult$Outcome;" .null) (F_reason : Fld Z h0 x0 "com/example/keyshelf/keyshelf/RuleResult" "reason" "Ljava/lang/String;" .null) :
    Con l Z (⟨"com/example/keyshelf/keyshelf/RuleResult", "<init>", "(Ljava/lang/String;Lcom/example/keyshelf/keyshelf/RuleResult$Outcome;Ljava/lang/String;)V"⟩ : MethodName) prog_6_method_1_code 4 none [] ({ frames := 2, cells := 0, slots := 0, locals := 24 } : Room) #[(.ref x0), (.ref x1), (.ref x2), (.ref x3)] h0 (fun v h L => v = none ∧ Fr n0 L ∧ Keep h0 h [x0] ∧ Fld Z h x0 "com/example/keyshelf/keyshelf/RuleResult" "rule" "Ljava/lang/String;" (.ref x1) ∧ Fld Z h x0 "com/example/keyshelf/keyshelf/RuleResult" "outcome" "Lcom/example/keyshelf/keyshelf/RuleResult$Outcome;" (.ref x2) ∧ Fld Z h x0 "com/example/keyshelf/keyshelf/RuleResult" "reason" "Ljava/lang/String;" (.ref x3)) := by
  refine Con.of (plainFor_of_name pn_5) ?_
  intro p e s m below meth c s₁ X0 hx hby hml hown hnm hret hlk hZ e0
  refine End.cast ?_ (ef_9 m x0 x1 x2 x3)
  have N0 := Fr.nil n0
  refine k_aloadN X0 hx (q := 1) rfl (hb hby d9_0) rfl rfl ?_
  refine k_callI X0 hx hZ (y := (⟨"java/lang/Record", "<init>", "()V"⟩ : MethodName)) hown rfl (hw _ (List.mem_of_getElem? (i := 49) rfl)) (hw _ (List.mem_of_getElem? (i := 50) rfl)) (hw _ (List.mem_of_getElem? (i := 52) rfl)) (hw _ (List.mem_of_getElem? (i := 53) rfl)) (by decide) 0 e0 (rm10 l Z a0 hw x0 h0 n0) (by decide) (by decide) (by decide) (by decide) (by rw [hml]; rfl) (a := x0) (as := []) (rest := []) pd_9 rfl (by first | exact Nat.le_refl _ | simp [Value.category]) (q := 4) rfl (hb hby d9_1) ?_
  rintro _ T1 L1 X1 ⟨rfl, N1q, e1⟩
  have N1 := Fr.app N0 N1q
  show End _ _ _ _ _ _ _ (T1.setTop (mkF m 4 #[.val (.ref x0), .val (.ref x1), .val (.ref x2), .val (.ref x3)] []))
  refine k_aloadN X1 hx (q := 5) rfl (hb hby d9_4) rfl rfl ?_
  refine k_aloadN X1 hx (q := 6) rfl (hb hby d9_5) rfl rfl ?_
  refine k_putF X1 hx hZ (host := "") hown (Or.inl (hw _ (List.mem_of_getElem? (i := 55) rfl))) Via.refl e1 (Or.inr ⟨(hw _ (List.mem_of_getElem? (i := 56) rfl)), rfl, hnm⟩) (hw _ (List.mem_of_getElem? (i := 42) rfl)) (ty := (.object "java/lang/String")) (by decide) rfl rfl (q := 9) rfl (hb hby d9_6) F_rule E0 ?_
  intro T2 h2 X2 e2 W2
  have K2 := Keep.of_wr W2
  have N2 := Fr.snoc X2 N1 ga
  have Fw2 := (F_rule).same W2
  refine k_aloadN X2 hx (q := 10) rfl (hb hby d9_9) rfl rfl ?_
  refine k_aloadN X2 hx (q := 11) rfl (hb hby d9_10) rfl rfl ?_
  have Gu3 := (F_outcome.other W2 (Or.inr (slot_ne (t := (.object "com/example/keyshelf/keyshelf/RuleResult$Outcome")) (t' := (.object "java/lang/String")) (Or.inr (hw _ (List.mem_of_getElem? (i := 58) rfl))) (Or.inr (hw _ (List.mem_of_getElem? (i := 56) rfl))) (by decide) (by decide) (by decide))))
  have Gu4 := (E0.keep K2)
  refine k_putF X2 hx hZ (host := "") hown (Or.inl (hw _ (List.mem_of_getElem? (i := 57) rfl))) Via.refl e2 (Or.inr ⟨(hw _ (List.mem_of_getElem? (i := 58) rfl)), rfl, hnm⟩) (hw _ (List.mem_of_getElem? (i := 42) rfl)) (ty := (.object "com/example/keyshelf/keyshelf/RuleResult$Outcome")) (by decide) rfl rfl (q := 14) rfl (hb hby d9_11) Gu3 Gu4 ?_
  intro T5 h5 X5 e5 W5
  have K5 := Keep.of_wr W5
  have N5 := Fr.snoc X5 N2 ga
  have Fw5 := (Gu3).same W5
  refine k_aloadN X5 hx (q := 15) rfl (hb hby d9_14) rfl rfl ?_
  refine k_aloadN X5 hx (q := 16) rfl (hb hby d9_15) rfl rfl ?_
  have Gu6 := ((F_reason.other W2 (Or.inr (slot_ne (t := (.object "java/lang/String")) (t' := (.object "java/lang/String")) (Or.inr (hw _ (List.mem_of_getElem? (i := 60) rfl))) (Or.inr (hw _ (List.mem_of_getElem? (i := 56) rfl))) (by decide) (by decide) (by decide)))).other W5 (Or.inr (slot_ne (t := (.object "java/lang/String")) (t' := (.object "com/example/keyshelf/keyshelf/RuleResult$Outcome")) (Or.inr (hw _ (List.mem_of_getElem? (i := 60) rfl))) (Or.inr (hw _ (List.mem_of_getElem? (i := 58) rfl))) (by decide) (by decide) (by decide))))
  have Gu7 := (Gu4.keep K5)
  refine k_putF X5 hx hZ (host := "") hown (Or.inl (hw _ (List.mem_of_getElem? (i := 59) rfl))) Via.refl e5 (Or.inr ⟨(hw _ (List.mem_of_getElem? (i := 60) rfl)), rfl, hnm⟩) (hw _ (List.mem_of_getElem? (i := 42) rfl)) (ty := (.object "java/lang/String")) (by decide) rfl rfl (q := 19) rfl (hb hby d9_16) Gu6 Gu7 ?_
  intro T8 h8 X8 e8 W8
  have K8 := Keep.of_wr W8
  have N8 := Fr.snoc X8 N5 ga
  have Fw8 := (Gu6).same W8
  have Kp9 : Keep h0 h2 [x0] := Keep.trans (Keep.refl h0 [x0]) K2 (allS (Or.inl (List.mem_of_getElem? (i := 0) rfl)) all0)
  have Kp10 : Keep h0 h5 [x0] := Keep.trans Kp9 K5 (allS (Or.inl (List.mem_of_getElem? (i := 0) rfl)) all0)
  have Kp11 : Keep h0 h8 [x0] := Keep.trans Kp10 K8 (allS (Or.inl (List.mem_of_getElem? (i := 0) rfl)) all0)
  have Gu12 := ((Fw2.other W5 (Or.inr (slot_ne (t := (.object "java/lang/String")) (t' := (.object "com/example/keyshelf/keyshelf/RuleResult$Outcome")) (Or.inr (hw _ (List.mem_of_getElem? (i := 56) rfl))) (Or.inr (hw _ (List.mem_of_getElem? (i := 58) rfl))) (by decide) (by decide) (by decide)))).other W8 (Or.inr (slot_ne (t := (.object "java/lang/String")) (t' := (.object "java/lang/String")) (Or.inr (hw _ (List.mem_of_getElem? (i := 56) rfl))) (Or.inr (hw _ (List.mem_of_getElem? (i := 60) rfl))) (by decide) (by decide) (by decide))))
  have Gu13 := (Fw5.other W8 (Or.inr (slot_ne (t := (.object "com/example/keyshelf/keyshelf/RuleResult$Outcome")) (t' := (.object "java/lang/String")) (Or.inr (hw _ (List.mem_of_getElem? (i := 58) rfl))) (Or.inr (hw _ (List.mem_of_getElem? (i := 60) rfl))) (by decide) (by decide) (by decide))))
  exact k_retV X8 hx hlk (by decide) (by decide) hret (hb hby d9_19) ⟨rfl, N8, by rw [e8]; exact Kp11, by rw [e8]; exact Gu12, by rw [e8]; exact Gu13, by rw [e8]; exact Fw8⟩
theorem d8_0 : decode prog_6_method_3_code 0 = .ok (.new 8, 3) := by decide +kernel
theorem d8_3 : decode prog_6_method_3_code 3 = .ok (.dup, 1) := by decide +kernel
theorem d8_4 : decode prog_6_method_3_code 4 = .ok (.aload_n 0, 1) := by decide +kernel
theorem d8_5 : decode prog_6_method_3_code 5 = .ok (.getstatic 30, 3) := by decide +kernel
theorem d8_8 : decode prog_6_method_3_code 8 = .ok (.aload_n 1, 1) := by decide +kernel
theorem d8_9 : decode prog_6_method_3_code 9 = .ok (.invokespecial 27, 3) := by decide +kernel
theorem d8_12 : decode prog_6_method_3_code 12 = .ok (.areturn, 1) := by decide +kernel
theorem ef_8 (m : MethodId) (x0 : Addr) (x1 : Addr) : entryFrame m #[(.ref x0), (.ref x1)] 2 = mkF m 0 #[.val (.ref x0), .val (.ref x1)] [] := by first | (simp [entryFrame, mkF, argsToLocals, Value.category]; done) | rfl
set_option maxRecDepth 65536 in
set_option maxHeartbeats 40000000 in
theorem rm8 (l : Launch) (Z : State) (a0 : Array Value) (hw : ∀ d ∈ tables_1, d.before a0 Z = true) (x0 : Addr) (x1 : Addr) (h0 : Heap) (n0 : Nat) (Z0 : n0 ≤ h0.size) (O0 : Old Z n0 h0) (hd : Addr) (hH : Sta Z Z.heap "com/example/keyshelf/keyshelf/RuleResult$Outcome" "BROKEN" "Lcom/example/keyshelf/keyshelf/RuleResult$Outcome;" (.ref hd)) :
    Con l Z (⟨"com/example/keyshelf/keyshelf/RuleResult", "broken", "(Ljava/lang/String;Ljava/lang/String;)Lcom/example/keyshelf/keyshelf/RuleResult;"⟩ : MethodName) prog_6_method_3_code 2 (some (.object "com/example/keyshelf/keyshelf/RuleResult")) [] ({ frames := 3, cells := 1, slots := 3, locals := 40 } : Room) #[(.ref x0), (.ref x1)] h0 (fun v h L => ∃ rr : Addr, v = some (.ref rr) ∧ Fr n0 L ∧ Keep h0 h [] ∧ Exa Z h rr "com/example/keyshelf/keyshelf/RuleResult" ∧ Fld Z h rr "com/example/keyshelf/keyshelf/RuleResult" "rule" "Ljava/lang/String;" (.ref x0) ∧ Fld Z h rr "com/example/keyshelf/keyshelf/RuleResult" "outcome" "Lcom/example/keyshelf/keyshelf/RuleResult$Outcome;" (.ref hd) ∧ Fld Z h rr "com/example/keyshelf/keyshelf/RuleResult" "reason" "Ljava/lang/String;" (.ref x1)) := by
  refine Con.of (plainFor_of_name pn_5) ?_
  intro p e s m below meth c s₁ X0 hx hby hml hown hnm hret hlk hZ e0
  refine End.cast ?_ (ef_8 m x0 x1)
  have N0 := Fr.nil n0
  refine k_new X0 hx hZ hown (hw _ (List.mem_of_getElem? (i := 41) rfl)) (hw _ (List.mem_of_getElem? (i := 42) rfl)) (hw _ (List.mem_of_getElem? (i := 39) rfl)) e0 (q := 3) rfl (hb hby d8_0) (by decide) (by decide) ?_
  intro T1 h1 rr X1 e1 g1 E1 A1 D1
  have K1 := Keep.of_ext E1
  have F2 : Fld Z h1 rr "com/example/keyshelf/keyshelf/RuleResult" "rule" "Ljava/lang/String;" .null := D1 (Or.inr (hw _ (List.mem_of_getElem? (i := 56) rfl))) (ty := (.object "java/lang/String")) (by decide)
  have F3 : Fld Z h1 rr "com/example/keyshelf/keyshelf/RuleResult" "outcome" "Lcom/example/keyshelf/keyshelf/RuleResult$Outcome;" .null := D1 (Or.inr (hw _ (List.mem_of_getElem? (i := 58) rfl))) (ty := (.object "com/example/keyshelf/keyshelf/RuleResult$Outcome")) (by decide)
  have F4 : Fld Z h1 rr "com/example/keyshelf/keyshelf/RuleResult" "reason" "Ljava/lang/String;" .null := D1 (Or.inr (hw _ (List.mem_of_getElem? (i := 60) rfl))) (ty := (.object "java/lang/String")) (by decide)
  refine k_dup X1 hx (q := 4) rfl (hb hby d8_3) rfl ?_
  refine k_aloadN X1 hx (q := 5) rfl (hb hby d8_4) rfl rfl ?_
  have Od5 : Old Z n0 h1 := Old.keep O0 K1 all0
  refine k_getS X1 hx hZ (host := "") hown (Or.inl (hw _ (List.mem_of_getElem? (i := 43) rfl))) Via.refl e1 (v := (.ref hd)) (q := 8) rfl (hb hby d8_5) (hH.ext Od5.2) ?_
  intro T6 X6 e6
  refine k_aloadN X6 hx (q := 9) rfl (hb hby d8_8) rfl rfl ?_
  have ge_rr : n0 ≤ rr := Nat.le_trans Z0 (Nat.le_of_eq g1.symm)
  refine k_callI X6 hx hZ (y := (⟨"com/example/keyshelf/keyshelf/RuleResult", "<init>", "(Ljava/lang/String;Lcom/example/keyshelf/keyshelf/RuleResult$Outcome;Ljava/lang/String;)V"⟩ : MethodName)) hown rfl (hw _ (List.mem_of_getElem? (i := 46) rfl)) (hw _ (List.mem_of_getElem? (i := 47) rfl)) (hw _ (List.mem_of_getElem? (i := 39) rfl)) (hw _ (List.mem_of_getElem? (i := 48) rfl)) (by decide) 1 e6 (rm9 l Z a0 hw rr x0 hd x1 h1 n0 ge_rr A1 F2 F3 F4) (by decide) (by decide) (by decide) (by decide) (by rw [hml]; rfl) (a := rr) (as := [(.ref x0), (.ref hd), (.ref x1)]) (rest := [(.ref rr)]) pd_10 rfl (by first | exact Nat.le_refl _ | simp [Value.category]) (q := 12) rfl (hb hby d8_9) ?_
  rintro _ T7 L7 X7 ⟨rfl, N7q, K7, G17, G27, G37⟩
  have N7 := Fr.app N0 N7q
  show End _ _ _ _ _ _ _ (T7.setTop (mkF m 12 #[.val (.ref x0), .val (.ref x1)] [(.ref rr)]))
  have Kp8 : Keep h0 h1 [] := Keep.trans (Keep.refl h0 []) K1 all0
  have Kp9 : Keep h0 T7.heap [] := Keep.trans Kp8 K7 (allS (Or.inr (Nat.le_trans (Keep.refl h0 []).1 (Nat.le_of_eq g1.symm))) all0)
  have Gu10 := (A1.keep K7)
  exact k_retA X7 hx hlk (by decide) (by decide) hret rfl rfl (hb hby d8_12) ⟨rr, rfl, N7, Kp9, Gu10, G17, G27, G37⟩
theorem d12_0 : decode prog_6_method_9_code 0 = .ok (.aload_n 0, 1) := by decide +kernel
theorem d12_1 : decode prog_6_method_9_code 1 = .ok (.getfield 7, 3) := by decide +kernel
theorem d12_4 : decode prog_6_method_9_code 4 = .ok (.areturn, 1) := by decide +kernel
theorem ef_12 (m : MethodId) (x0 : Addr) : entryFrame m #[(.ref x0)] 1 = mkF m 0 #[.val (.ref x0)] [] := by first | (simp [entryFrame, mkF, argsToLocals, Value.category]; done) | rfl
set_option maxRecDepth 65536 in
set_option maxHeartbeats 40000000 in
theorem rm12 (l : Launch) (Z : State) (a0 : Array Value) (hw : ∀ d ∈ tables_1, d.before a0 Z = true) (x0 : Addr) (h0 : Heap) (n0 : Nat) (rv : Addr) (F1 : Fld Z h0 x0 "com/example/keyshelf/keyshelf/RuleResult" "rule" "Ljava/lang/String;" (.ref rv)) :
    Con l Z (⟨"com/example/keyshelf/keyshelf/RuleResult", "rule", "()Ljava/lang/String;"⟩ : MethodName) prog_6_method_9_code 1 (some (.object "java/lang/String")) [] ({ frames := 0, cells := 0, slots := 0, locals := 0 } : Room) #[(.ref x0)] h0 (fun v h L => v = some (.ref rv) ∧ Fr n0 L ∧ h = h0) := by
  refine Con.of (plainFor_of_name pn_5) ?_
  intro p e s m below meth c s₁ X0 hx hby hml hown hnm hret hlk hZ e0
  refine End.cast ?_ (ef_12 m x0)
  have N0 := Fr.nil n0
  refine k_aloadN X0 hx (q := 1) rfl (hb hby d12_0) rfl rfl ?_
  refine k_getF X0 hx hZ (host := "") hown (Or.inl (hw _ (List.mem_of_getElem? (i := 55) rfl))) Via.refl e0 (q := 4) rfl (hb hby d12_1) F1 ?_
  intro T1 X1 e1
  exact k_retA X1 hx hlk (by decide) (by decide) hret rfl rfl (hb hby d12_4) ⟨rfl, N0, e1⟩
theorem d11_0 : decode prog_6_method_10_code 0 = .ok (.aload_n 0, 1) := by decide +kernel
theorem d11_1 : decode prog_6_method_10_code 1 = .ok (.getfield 13, 3) := by decide +kernel
theorem d11_4 : decode prog_6_method_10_code 4 = .ok (.areturn, 1) := by decide +kernel
theorem ef_11 (m : MethodId) (x0 : Addr) : entryFrame m #[(.ref x0)] 1 = mkF m 0 #[.val (.ref x0)] [] := by first | (simp [entryFrame, mkF, argsToLocals, Value.category]; done) | rfl
set_option maxRecDepth 65536 in
set_option maxHeartbeats 40000000 in
theorem rm11 (l : Launch) (Z : State) (a0 : Array Value) (hw : ∀ d ∈ tables_1, d.before a0 Z = true) (x0 : Addr) (h0 : Heap) (n0 : Nat) (rv : Addr) (F1 : Fld Z h0 x0 "com/example/keyshelf/keyshelf/RuleResult" "outcome" "Lcom/example/keyshelf/keyshelf/RuleResult$Outcome;" (.ref rv)) :
    Con l Z (⟨"com/example/keyshelf/keyshelf/RuleResult", "outcome", "()Lcom/example/keyshelf/keyshelf/RuleResult$Outcome;"⟩ : MethodName) prog_6_method_10_code 1 (some (.object "com/example/keyshelf/keyshelf/RuleResult$Outcome")) [] ({ frames := 0, cells := 0, slots := 0, locals := 0 } : Room) #[(.ref x0)] h0 (fun v h L => v = some (.ref rv) ∧ Fr n0 L ∧ h = h0) := by
  refine Con.of (plainFor_of_name pn_5) ?_
  intro p e s m below meth c s₁ X0 hx hby hml hown hnm hret hlk hZ e0
  refine End.cast ?_ (ef_11 m x0)
  have N0 := Fr.nil n0
  refine k_aloadN X0 hx (q := 1) rfl (hb hby d11_0) rfl rfl ?_
  refine k_getF X0 hx hZ (host := "") hown (Or.inl (hw _ (List.mem_of_getElem? (i := 57) rfl))) Via.refl e0 (q := 4) rfl (hb hby d11_1) F1 ?_
  intro T1 X1 e1
  exact k_retA X1 hx hlk (by decide) (by decide) hret rfl rfl (hb hby d11_4) ⟨rfl, N0, e1⟩
theorem d15_0 : decode prog_6_method_11_code 0 = .ok (.aload_n 0, 1) := by decide +kernel
theorem d15_1 : decode prog_6_method_11_code 1 = .ok (.getfield 17, 3) := by decide +kernel
theorem d15_4 : decode prog_6_method_11_code 4 = .ok (.areturn, 1) := by decide +kernel
theorem ef_15 (m : MethodId) (x0 : Addr) : entryFrame m #[(.ref x0)] 1 = mkF m 0 #[.val (.ref x0)] [] := by first | (simp [entryFrame, mkF, argsToLocals, Value.category]; done) | rfl
set_option maxRecDepth 65536 in
set_option maxHeartbeats 40000000 in
theorem rm15 (l : Launch) (Z : State) (a0 : Array Value) (hw : ∀ d ∈ tables_1, d.before a0 Z = true) (x0 : Addr) (h0 : Heap) (n0 : Nat) (rv : Addr) (F1 : Fld Z h0 x0 "com/example/keyshelf/keyshelf/RuleResult" "reason" "Ljava/lang/String;" (.ref rv)) :
    Con l Z (⟨"com/example/keyshelf/keyshelf/RuleResult", "reason", "()Ljava/lang/String;"⟩ : MethodName) prog_6_method_11_code 1 (some (.object "java/lang/String")) [] ({ frames := 0, cells := 0, slots := 0, locals := 0 } : Room) #[(.ref x0)] h0 (fun v h L => v = some (.ref rv) ∧ Fr n0 L ∧ h = h0) := by
  refine Con.of (plainFor_of_name pn_5) ?_
  intro p e s m below meth c s₁ X0 hx hby hml hown hnm hret hlk hZ e0
  refine End.cast ?_ (ef_15 m x0)
  have N0 := Fr.nil n0
  refine k_aloadN X0 hx (q := 1) rfl (hb hby d15_0) rfl rfl ?_
  refine k_getF X0 hx hZ (host := "") hown (Or.inl (hw _ (List.mem_of_getElem? (i := 59) rfl))) Via.refl e0 (q := 4) rfl (hb hby d15_1) F1 ?_
  intro T1 X1 e1
  exact k_retA X1 hx hlk (by decide) (by decide) hret rfl rfl (hb hby d15_4) ⟨rfl, N0, e1⟩
theorem d14_0 : decode jdk_43_method_13_code 0 = .ok (.aload_n 0, 1) := by decide +kernel
theorem d14_1 : decode jdk_43_method_13_code 1 = .ok (.arraylength, 1) := by decide +kernel
theorem d14_2 : decode jdk_43_method_13_code 2 = .ok (.aload_n 1, 1) := by decide +kernel
theorem d14_3 : decode jdk_43_method_13_code 3 = .ok (.arraylength, 1) := by decide +kernel
theorem d14_4 : decode jdk_43_method_13_code 4 = .ok (.if_icmp .ne 30, 3) := by decide +kernel
theorem d14_7 : decode jdk_43_method_13_code 7 = .ok (.iconst 0, 1) := by decide +kernel
theorem d14_8 : decode jdk_43_method_13_code 8 = .ok (.istore_n 2, 1) := by decide +kernel
theorem d14_9 : decode jdk_43_method_13_code 9 = .ok (.iload_n 2, 1) := by decide +kernel
theorem d14_10 : decode jdk_43_method_13_code 10 = .ok (.aload_n 0, 1) := by decide +kernel
theorem d14_11 : decode jdk_43_method_13_code 11 = .ok (.arraylength, 1) := by decide +kernel
theorem d14_12 : decode jdk_43_method_13_code 12 = .ok (.if_icmp .ge 20, 3) := by decide +kernel
theorem d14_15 : decode jdk_43_method_13_code 15 = .ok (.aload_n 0, 1) := by decide +kernel
theorem d14_16 : decode jdk_43_method_13_code 16 = .ok (.iload_n 2, 1) := by decide +kernel
theorem d14_17 : decode jdk_43_method_13_code 17 = .ok (.baload, 1) := by decide +kernel
theorem d14_18 : decode jdk_43_method_13_code 18 = .ok (.aload_n 1, 1) := by decide +kernel
theorem d14_19 : decode jdk_43_method_13_code 19 = .ok (.iload_n 2, 1) := by decide +kernel
theorem d14_20 : decode jdk_43_method_13_code 20 = .ok (.baload, 1) := by decide +kernel
theorem d14_21 : decode jdk_43_method_13_code 21 = .ok (.if_icmp .eq 5, 3) := by decide +kernel
theorem d14_26 : decode jdk_43_method_13_code 26 = .ok (.iinc 2 1, 3) := by decide +kernel
theorem d14_29 : decode jdk_43_method_13_code 29 = .ok (.goto (-20), 3) := by decide +kernel
theorem d14_32 : decode jdk_43_method_13_code 32 = .ok (.iconst 1, 1) := by decide +kernel
theorem d14_33 : decode jdk_43_method_13_code 33 = .ok (.ireturn, 1) := by decide +kernel
theorem ef_14 (m : MethodId) (x0 : Addr) (x1 : Addr) : entryFrame m #[(.ref x0), (.ref x1)] 3 = mkF m 0 #[.val (.ref x0), .val (.ref x1), .unset] [] := by first | (simp [entryFrame, mkF, argsToLocals, Value.category]; done) | rfl
set_option maxRecDepth 65536 in
set_option maxHeartbeats 40000000 in
theorem rm14 (l : Launch) (Z : State) (a0 : Array Value) (hw : ∀ d ∈ tables_1, d.before a0 Z = true) (x0 : Addr) (x1 : Addr) (h0 : Heap) (n0 : Nat) (N : Nat) (hN : N ≤ 3) (g : Nat → Int32) (V0 : Ary Z h0 x0 .byte N (fun t => .int (g t))) (V1 : Ary Z h0 x1 .byte N (fun t => .int (g t))) :
    Con l Z (⟨"java/lang/StringLatin1", "equals", "([B[B)Z"⟩ : MethodName) jdk_43_method_13_code 3 (some .boolean) [] ({ frames := 0, cells := 0, slots := 0, locals := 0 } : Room) #[(.ref x0), (.ref x1)] h0 (fun v h L => v = some (.int 1) ∧ Fr n0 L ∧ h = h0) := by
  refine Con.of (plainFor_of_name pn_2) ?_
  intro p e s m below meth c s₁ X0 hx hby hml hown hnm hret hlk hZ e0
  refine End.cast ?_ (ef_14 m x0 x1)
  have N0 := Fr.nil n0
  refine k_aloadN X0 hx (q := 1) rfl (hb hby d14_0) rfl rfl ?_
  refine k_al X0 hx hZ e0 (z := N.toInt32) (q := 2) rfl (hb hby d14_1) V0 rfl ?_
  refine k_aloadN X0 hx (q := 3) rfl (hb hby d14_2) rfl rfl ?_
  refine k_al X0 hx hZ e0 (z := N.toInt32) (q := 4) rfl (hb hby d14_3) V1 rfl ?_
  refine k_icmp_ne X0 hx (q1 := 34) (q := 7) (by decide) (by decide) rfl (hb hby d14_4) (fun hc => absurd rfl hc) (fun _ => ?_)
  refine k_iconst X0 hx (v := (0 : Int32)) rfl (q := 8) rfl (hb hby d14_7) ?_
  refine k_istoreN X0 hx (L' := #[.val (.ref x0), .val (.ref x1), .val (.int (0 : Int32))]) (q := 9) rfl (hb hby d14_8) rfl ?_
  have hN32 := own_nat (k := N) (by omega)
  have loop : ∀ (d i : Nat) (i' : Int32), N - i < d → Ix i' i → i ≤ N → End p e below s (fun v h L => v = some (.int 1) ∧ Fr n0 L ∧ h = h0) 0 0 (s₁.setTop (mkF m 9 #[.val (.ref x0), .val (.ref x1), .val (.int i')] [])) := by
    intro d
    induction d with
    | zero => intro i i' h; omega
    | succ d ih =>
      intro i i' hd hi hle
      refine k_iloadN X0 hx (q := 10) rfl (hb hby d14_9) rfl ?_
      refine k_aloadN X0 hx (q := 11) rfl (hb hby d14_10) rfl rfl ?_
      refine k_al X0 hx hZ e0 (z := N.toInt32) (q := 12) rfl (hb hby d14_11) V0 rfl ?_
      refine k_icmp_ge X0 hx (q1 := 32) (q := 15) (by decide) (by decide) rfl (hb hby d14_12) (fun hc2 => ?_) (fun hc2 => ?_)
      · refine k_iconst X0 hx (v := (1 : Int32)) rfl (q := 33) rfl (hb hby d14_32) ?_
        exact k_retN X0 hx (t := .boolean) hlk (by decide) (by decide) hret (by simp) (hb hby d14_33) ⟨rfl, N0, e0⟩
      · have hik := (own_lt hi hN32).mp hc2
        refine k_aloadN X0 hx (q := 16) rfl (hb hby d14_15) rfl rfl ?_
        refine k_iloadN X0 hx (q := 17) rfl (hb hby d14_16) rfl ?_
        refine k_arB X0 hx hZ e0 (x := (.int (g i))) i (q := 18) rfl (hb hby d14_17) V0 hi hik rfl ?_
        refine k_aloadN X0 hx (q := 19) rfl (hb hby d14_18) rfl rfl ?_
        refine k_iloadN X0 hx (q := 20) rfl (hb hby d14_19) rfl ?_
        refine k_arB X0 hx hZ e0 (x := (.int (g i))) i (q := 21) rfl (hb hby d14_20) V1 hi hik rfl ?_
        refine k_icmp_eq X0 hx (q1 := 26) (q := 24) (by decide) (by decide) rfl (hb hby d14_21) (fun _ => ?_) (fun hc => absurd rfl hc)
        refine k_iinc X0 hx (L' := #[.val (.ref x0), .val (.ref x1), .val (.int (i' + (1 : Int32)))]) (q := 29) rfl (hb hby d14_26) rfl rfl ?_
        refine k_goto X0 hx (q := 9) (by decide) (by decide) (hb hby d14_29) ?_
        exact ih (i + 1) _ (by omega) (own_up hi (by omega)) (by omega)
  exact loop (N + 1) 0 _ (by omega) ⟨by decide, by decide⟩ (by omega)
theorem d13_0 : decode jdk_42_method_66_code 0 = .ok (.aload_n 0, 1) := by decide +kernel
theorem d13_1 : decode jdk_42_method_66_code 1 = .ok (.aload_n 1, 1) := by decide +kernel
theorem d13_2 : decode jdk_42_method_66_code 2 = .ok (.if_acmp .ne 5, 3) := by decide +kernel
theorem d13_5 : decode jdk_42_method_66_code 5 = .ok (.iconst 1, 1) := by decide +kernel
theorem d13_6 : decode jdk_42_method_66_code 6 = .ok (.ireturn, 1) := by decide +kernel
theorem d13_7 : decode jdk_42_method_66_code 7 = .ok (.aload_n 1, 1) := by decide +kernel
theorem d13_8 : decode jdk_42_method_66_code 8 = .ok (.instanceof 10, 3) := by decide +kernel
theorem d13_11 : decode jdk_42_method_66_code 11 = .ok (.ifCond .eq 43, 3) := by decide +kernel
theorem d13_14 : decode jdk_42_method_66_code 14 = .ok (.aload_n 1, 1) := by decide +kernel
theorem d13_15 : decode jdk_42_method_66_code 15 = .ok (.checkcast 10, 3) := by decide +kernel
theorem d13_18 : decode jdk_42_method_66_code 18 = .ok (.astore_n 2, 1) := by decide +kernel
theorem d13_19 : decode jdk_42_method_66_code 19 = .ok (.getstatic 38, 3) := by decide +kernel
theorem d13_22 : decode jdk_42_method_66_code 22 = .ok (.ifCond .eq 14, 3) := by decide +kernel
theorem d13_25 : decode jdk_42_method_66_code 25 = .ok (.aload_n 0, 1) := by decide +kernel
theorem d13_26 : decode jdk_42_method_66_code 26 = .ok (.getfield 15, 3) := by decide +kernel
theorem d13_29 : decode jdk_42_method_66_code 29 = .ok (.aload_n 2, 1) := by decide +kernel
theorem d13_30 : decode jdk_42_method_66_code 30 = .ok (.getfield 15, 3) := by decide +kernel
theorem d13_33 : decode jdk_42_method_66_code 33 = .ok (.if_icmp .ne 21, 3) := by decide +kernel
theorem d13_36 : decode jdk_42_method_66_code 36 = .ok (.aload_n 0, 1) := by decide +kernel
theorem d13_37 : decode jdk_42_method_66_code 37 = .ok (.getfield 9, 3) := by decide +kernel
theorem d13_40 : decode jdk_42_method_66_code 40 = .ok (.aload_n 2, 1) := by decide +kernel
theorem d13_41 : decode jdk_42_method_66_code 41 = .ok (.getfield 9, 3) := by decide +kernel
theorem d13_44 : decode jdk_42_method_66_code 44 = .ok (.invokestatic 541, 3) := by decide +kernel
theorem d13_47 : decode jdk_42_method_66_code 47 = .ok (.ifCond .eq 7, 3) := by decide +kernel
theorem d13_50 : decode jdk_42_method_66_code 50 = .ok (.iconst 1, 1) := by decide +kernel
theorem d13_51 : decode jdk_42_method_66_code 51 = .ok (.goto 4, 3) := by decide +kernel
theorem d13_55 : decode jdk_42_method_66_code 55 = .ok (.ireturn, 1) := by decide +kernel
theorem ef_13 (m : MethodId) (x0 : Addr) (x1 : Addr) : entryFrame m #[(.ref x0), (.ref x1)] 3 = mkF m 0 #[.val (.ref x0), .val (.ref x1), .unset] [] := by first | (simp [entryFrame, mkF, argsToLocals, Value.category]; done) | rfl
set_option maxRecDepth 65536 in
set_option maxHeartbeats 40000000 in
theorem rm13 (l : Launch) (Z : State) (a0 : Array Value) (hw : ∀ d ∈ tables_1, d.before a0 Z = true) (x0 : Addr) (x1 : Addr) (h0 : Heap) (n0 : Nat) (O0 : Old Z n0 h0) (cs : Int32) (hcs : ¬ cs = (0 : Int32)) (hS : Sta Z Z.heap "java/lang/String" "COMPACT_STRINGS" "Z" (.int cs)) (E1 : Exa Z h0 x1 "java/lang/String") (b0 b1 : Addr) (N : Nat) (hN : N ≤ 3) (g : Nat → Int32) (F01 : Fld Z h0 x0 "java/lang/String" "value" "[B" (.ref b0)) (F02 : Fld Z h0 x0 "java/lang/String" "coder" "B" (.int (0 : Int32))) (V0 : Ary Z h0 b0 .byte N (fun t => .int (g t))) (F11 : Fld Z h0 x1 "java/lang/String" "value" "[B" (.ref b1)) (F12 : Fld Z h0 x1 "java/lang/String" "coder" "B" (.int (0 : Int32))) (V1 : Ary Z h0 b1 .byte N (fun t => .int (g t))) :
    Con l Z (⟨"java/lang/String", "equals", "(Ljava/lang/Object;)Z"⟩ : MethodName) jdk_42_method_66_code 3 (some .boolean) [] ({ frames := 1, cells := 0, slots := 0, locals := 14 } : Room) #[(.ref x0), (.ref x1)] h0 (fun v h L => v = some (.int 1) ∧ Fr n0 L ∧ h = h0) := by
  refine Con.of (plainFor_of_name pn_1) ?_
  intro p e s m below meth c s₁ X0 hx hby hml hown hnm hret hlk hZ e0
  refine End.cast ?_ (ef_13 m x0 x1)
  have N0 := Fr.nil n0
  refine k_aloadN X0 hx (q := 1) rfl (hb hby d13_0) rfl rfl ?_
  refine k_aloadN X0 hx (q := 2) rfl (hb hby d13_1) rfl rfl ?_
  by_cases hs : x0 = x1
  · refine k_acmp_n X0 hx (q := 5) rfl (hb hby d13_2) rfl rfl (acmp_ne_f hs) ?_
    refine k_iconst X0 hx (v := (1 : Int32)) rfl (q := 6) rfl (hb hby d13_5) ?_
    exact k_retN X0 hx (t := .boolean) hlk (by decide) (by decide) hret (by simp) (hb hby d13_6) ⟨rfl, N0, e0⟩
  · refine k_acmp_y X0 hx (q := 7) (by decide) (by decide) (hb hby d13_2) rfl rfl (acmp_ne_t hs) ?_
    refine k_aloadN X0 hx (q := 8) rfl (hb hby d13_7) rfl rfl ?_
    refine k_instY X0 hx hZ hown (hw _ (List.mem_of_getElem? (i := 77) rfl)) e0 (q := 11) rfl (hb hby d13_8) (Ins.self E1) ?_
    intro T1 X1 e1
    refine k_if_eq X1 hx (q1 := 54) (q := 14) (by decide) (by decide) rfl (hb hby d13_11) (fun hc => absurd hc (by decide)) (fun _ => ?_)
    refine k_aloadN X1 hx (q := 15) rfl (hb hby d13_14) rfl rfl ?_
    refine k_cast X1 hx hZ hown (hw _ (List.mem_of_getElem? (i := 77) rfl)) e1 (q := 18) rfl (hb hby d13_15) (Ins.self E1) ?_
    intro T3 X3 e3
    refine k_astoreN X3 hx (L' := #[.val (.ref x0), .val (.ref x1), .val (.ref x1)]) (q := 19) rfl (hb hby d13_18) rfl rfl ?_
    refine k_getS X3 hx hZ (host := "") hown (Or.inl (hw _ (List.mem_of_getElem? (i := 18) rfl))) Via.refl e3 (v := (.int cs)) (q := 22) rfl (hb hby d13_19) (hS.ext O0.2) ?_
    intro T4 X4 e4
    refine k_if_eq X4 hx (q1 := 36) (q := 25) (by decide) (by decide) rfl (hb hby d13_22) (fun hc => absurd hc hcs) (fun _ => ?_)
    refine k_aloadN X4 hx (q := 26) rfl (hb hby d13_25) rfl rfl ?_
    refine k_getF X4 hx hZ (host := "") hown (Or.inl (hw _ (List.mem_of_getElem? (i := 30) rfl))) Via.refl e4 (q := 29) rfl (hb hby d13_26) F02 ?_
    intro T6 X6 e6
    refine k_aloadN X6 hx (q := 30) rfl (hb hby d13_29) rfl rfl ?_
    refine k_getF X6 hx hZ (host := "") hown (Or.inl (hw _ (List.mem_of_getElem? (i := 30) rfl))) Via.refl e6 (q := 33) rfl (hb hby d13_30) F12 ?_
    intro T7 X7 e7
    refine k_icmp_ne X7 hx (q1 := 54) (q := 36) (by decide) (by decide) rfl (hb hby d13_33) (fun hc => absurd rfl hc) (fun _ => ?_)
    refine k_aloadN X7 hx (q := 37) rfl (hb hby d13_36) rfl rfl ?_
    refine k_getF X7 hx hZ (host := "") hown (Or.inl (hw _ (List.mem_of_getElem? (i := 32) rfl))) Via.refl e7 (q := 40) rfl (hb hby d13_37) F01 ?_
    intro T9 X9 e9
    refine k_aloadN X9 hx (q := 41) rfl (hb hby d13_40) rfl rfl ?_
    refine k_getF X9 hx hZ (host := "") hown (Or.inl (hw _ (List.mem_of_getElem? (i := 32) rfl))) Via.refl e9 (q := 44) rfl (hb hby d13_41) F11 ?_
    intro T10 X10 e10
    refine k_callS X10 hx hZ (y := (⟨"java/lang/StringLatin1", "equals", "([B[B)Z"⟩ : MethodName)) hown (hw _ (List.mem_of_getElem? (i := 78) rfl)) (hw _ (List.mem_of_getElem? (i := 79) rfl)) (hw _ (List.mem_of_getElem? (i := 80) rfl)) (hw _ (List.mem_of_getElem? (i := 81) rfl)) (by decide) 0 e10 (rm14 l Z a0 hw b0 b1 h0 n0 N hN g V0 V1) (by decide) (by decide) (by decide) (by decide) (by rw [hml]; rfl) (as := [(.ref b0), (.ref b1)]) (rest := []) pd_11 rfl (by first | exact Nat.le_refl _ | simp [Value.category]) (q := 47) rfl (hb hby d13_44) ?_
    rintro _ T11 L11 X11 ⟨rfl, N11q, e11⟩
    have N11 := Fr.app N0 N11q
    show End _ _ _ _ _ _ _ (T11.setTop (mkF m 47 #[.val (.ref x0), .val (.ref x1), .val (.ref x1)] [(.int (1 : Int32))]))
    refine k_if_eq X11 hx (q1 := 54) (q := 50) (by decide) (by decide) rfl (hb hby d13_47) (fun hc => absurd hc (by decide)) (fun _ => ?_)
    refine k_iconst X11 hx (v := (1 : Int32)) rfl (q := 51) rfl (hb hby d13_50) ?_
    refine k_goto X11 hx (q := 55) (by decide) (by decide) (hb hby d13_51) ?_
    exact k_retN X11 hx (t := .boolean) hlk (by decide) (by decide) hret (by simp) (hb hby d13_55) ⟨rfl, N11, e11⟩
def own_gi (x0 : Int32) (n : Nat) : Nat → Int32 := fun t => if n = 1 then nar .byte ((x0 &&& (255 : Int32)).toUInt32.toUInt16.toUInt32.toInt32).toInt8.toInt32 else nar .byte (own_cs x0 t).toInt8.toInt32
theorem own_dr_gi (x0 : Int32) (n : Nat) : ∀ t, t < n → own_dr x0 n t = .int (own_gi x0 n t) := by
  intro t _
  unfold own_dr own_gi
  by_cases q : n = 1
  · rw [if_pos q, if_pos q]
  · rw [if_neg q, if_neg q]
theorem own_n3 (y : Int32) : ∃ k, k ≤ 3 ∧ Ix (y &&& (3 : Int32)) k := by
  have e := c_mask y 3 2 (by decide) (by decide)
  have : ((2 ^ 2 : Nat) : Int) = 4 := by decide
  rw [this] at e
  refine ⟨(y &&& (3 : Int32)).toInt.toNat, ?_, Ix.of ?_⟩ <;> omega
theorem ef_0 (m : MethodId) (x0 : Int32) (x1 : Int32) (x2 : Int32) : entryFrame m #[(.int x0), (.int x1), (.int x2)] maxLocals = mkF m 0 #[.val (.int x0), .val (.int x1), .val (.int x2), .unset, .unset, .unset, .unset, .unset] [] := by first | (simp [entryFrame, mkF, argsToLocals, Value.category, maxLocals]; done) | rfl
set_option maxRecDepth 65536 in
set_option maxHeartbeats 40000000 in
theorem rmL (l : Launch) (Z : State) (a0 : Array Value) (hw : ∀ d ∈ tables_1, d.before a0 Z = true) (x0 : Int32) (x1 : Int32) (x2 : Int32) (h0 : Heap) (n0 : Nat) (Z0 : n0 ≤ h0.size) (O0 : Old Z n0 h0) (hd : Addr) (hH : Sta Z Z.heap "com/example/keyshelf/keyshelf/RuleResult$Outcome" "BROKEN" "Lcom/example/keyshelf/keyshelf/RuleResult$Outcome;" (.ref hd)) (cs : Int32) (hcs : ¬ cs = (0 : Int32)) (hS : Sta Z Z.heap "java/lang/String" "COMPACT_STRINGS" "Z" (.int cs)) :
    ConW l Z consts_1 x code maxLocals ret tables_1 room_1 #[(.int x0), (.int x1), (.int x2)] h0 (fun v h L => v = some (.int 1) ∧ Fr n0 L) := by
  refine ConW.of (plainFor_of_name pn_3) (own_EL hw) ?_
  intro p e s m below meth c s₁ vm0 X0 hx hby hml hown hnm hret hlk hZ e0 W0
  refine End.cast ?_ (ef_0 m x0 x1 x2)
  have N0 := Fr.nil n0
  obtain ⟨Na, ha3, hxa⟩ := own_n3 x2
  obtain ⟨Nb, hb3, hxb⟩ := own_n3 ((x2.toUInt32 >>> ((2 : Int32) &&& 31).toUInt32).toInt32)
  refine k_iloadN X0 hx (q := 1) rfl (hb hby at_0) rfl ?_
  refine k_iloadN X0 hx (q := 2) rfl (hb hby at_1) rfl ?_
  refine k_iconst X0 hx (v := (3 : Int32)) rfl (q := 3) rfl (hb hby at_2) ?_
  refine k_iand X0 hx (q := 4) rfl (hb hby at_3) ?_
  refine kw_callS X0 hx hZ (y := (⟨"com/example/keyshelf/keyshelf/RuleResultBrokenPinLaw", "draw", "(II)Ljava/lang/String;"⟩ : MethodName)) hown (hw _ (List.mem_of_getElem? (i := 0) rfl)) (hw _ (List.mem_of_getElem? (i := 1) rfl)) (hw _ (List.mem_of_getElem? (i := 2) rfl)) (hw _ (List.mem_of_getElem? (i := 3) rfl)) (by decide) 0 e0 W0 (rm1 l Z a0 hw x0 (x2 &&& (3 : Int32)) h0 n0 Z0 O0 Na hxa ha3 cs hcs hS) (by decide) (by decide) (by decide) (by decide) (by rw [hml]; rfl) (as := [(.int x0), (.int (x2 &&& (3 : Int32)))]) (rest := []) pd_12 rfl (by first | exact Nat.le_refl _ | simp [Value.category]) (q := 7) rfl (hb hby at_4) ?_
  rintro _ T1 L1 X1 hZ hown W1 R1 ⟨s1, bs1, rfl, N1q, K1, le1, E1, G11, G21, V1⟩
  have N1 := Fr.app N0 N1q
  show EndG _ _ _ _ _ (T1.setTop (mkF m 7 #[.val (.int x0), .val (.int x1), .val (.int x2), .unset, .unset, .unset, .unset, .unset] [(.ref s1)]))
  have Vgs1 := V1.congr (own_dr_gi x0 Na)
  refine k_astoreN X1 hx (L' := #[.val (.int x0), .val (.int x1), .val (.int x2), .val (.ref s1), .unset, .unset, .unset, .unset]) (q := 8) rfl (hb hby at_7) rfl rfl ?_
  refine k_iloadN X1 hx (q := 9) rfl (hb hby at_8) rfl ?_
  refine k_iloadN X1 hx (q := 10) rfl (hb hby at_9) rfl ?_
  refine k_iconst X1 hx (v := (2 : Int32)) rfl (q := 11) rfl (hb hby at_10) ?_
  refine k_iushr X1 hx (q := 12) rfl (hb hby at_11) ?_
  refine k_iconst X1 hx (v := (3 : Int32)) rfl (q := 13) rfl (hb hby at_12) ?_
  refine k_iand X1 hx (q := 14) rfl (hb hby at_13) ?_
  have Od2 : Old Z n0 T1.heap := Old.keep O0 K1 all0
  have Sz3 : n0 ≤ T1.heap.size := Nat.le_trans Z0 K1.1
  refine kw_callS X1 hx hZ (y := (⟨"com/example/keyshelf/keyshelf/RuleResultBrokenPinLaw", "draw", "(II)Ljava/lang/String;"⟩ : MethodName)) hown (hw _ (List.mem_of_getElem? (i := 0) rfl)) (hw _ (List.mem_of_getElem? (i := 1) rfl)) (hw _ (List.mem_of_getElem? (i := 2) rfl)) (hw _ (List.mem_of_getElem? (i := 3) rfl)) (by decide) 0 rfl W1 (rm1 l Z a0 hw x1 (((x2.toUInt32 >>> ((2 : Int32) &&& 31).toUInt32).toInt32) &&& (3 : Int32)) T1.heap n0 Sz3 Od2 Nb hxb hb3 cs hcs hS) (by decide) (by decide) (by decide) (by decide) (by rw [hml]; rfl) (as := [(.int x1), (.int (((x2.toUInt32 >>> ((2 : Int32) &&& 31).toUInt32).toInt32) &&& (3 : Int32)))]) (rest := []) pd_12 rfl (by first | exact Nat.le_refl _ | simp [Value.category]) (q := 17) rfl (hb hby at_14) ?_
  rintro _ T4 L4 X4 hZ hown W4 R4 ⟨s2, bs2, rfl, N4q, K4, le4, E4, G14, G24, V4⟩
  have N4 := Fr.app N1 N4q
  show EndG _ _ _ _ _ (T4.setTop (mkF m 17 #[.val (.int x0), .val (.int x1), .val (.int x2), .val (.ref s1), .unset, .unset, .unset, .unset] [(.ref s2)]))
  have Vgs2 := V4.congr (own_dr_gi x1 Nb)
  refine k_astore X4 hx (L' := #[.val (.int x0), .val (.int x1), .val (.int x2), .val (.ref s1), .val (.ref s2), .unset, .unset, .unset]) (q := 19) rfl (hb hby at_17) rfl rfl ?_
  refine k_iloadN X4 hx (q := 20) rfl (hb hby at_19) rfl ?_
  refine k_iloadN X4 hx (q := 21) rfl (hb hby at_20) rfl ?_
  refine k_iconst X4 hx (v := (3 : Int32)) rfl (q := 22) rfl (hb hby at_21) ?_
  refine k_iand X4 hx (q := 23) rfl (hb hby at_22) ?_
  have Od5 : Old Z n0 T4.heap := Old.keep Od2 K4 all0
  have Sz6 : n0 ≤ T4.heap.size := Nat.le_trans Sz3 K4.1
  refine kw_callS X4 hx hZ (y := (⟨"com/example/keyshelf/keyshelf/RuleResultBrokenPinLaw", "draw", "(II)Ljava/lang/String;"⟩ : MethodName)) hown (hw _ (List.mem_of_getElem? (i := 0) rfl)) (hw _ (List.mem_of_getElem? (i := 1) rfl)) (hw _ (List.mem_of_getElem? (i := 2) rfl)) (hw _ (List.mem_of_getElem? (i := 3) rfl)) (by decide) 0 rfl W4 (rm1 l Z a0 hw x0 (x2 &&& (3 : Int32)) T4.heap n0 Sz6 Od5 Na hxa ha3 cs hcs hS) (by decide) (by decide) (by decide) (by decide) (by rw [hml]; rfl) (as := [(.int x0), (.int (x2 &&& (3 : Int32)))]) (rest := []) pd_12 rfl (by first | exact Nat.le_refl _ | simp [Value.category]) (q := 26) rfl (hb hby at_23) ?_
  rintro _ T7 L7 X7 hZ hown W7 R7 ⟨s3, bs3, rfl, N7q, K7, le7, E7, G17, G27, V7⟩
  have N7 := Fr.app N4 N7q
  show EndG _ _ _ _ _ (T7.setTop (mkF m 26 #[.val (.int x0), .val (.int x1), .val (.int x2), .val (.ref s1), .val (.ref s2), .unset, .unset, .unset] [(.ref s3)]))
  have Vgs3 := V7.congr (own_dr_gi x0 Na)
  refine k_astore X7 hx (L' := #[.val (.int x0), .val (.int x1), .val (.int x2), .val (.ref s1), .val (.ref s2), .val (.ref s3), .unset, .unset]) (q := 28) rfl (hb hby at_26) rfl rfl ?_
  refine k_iloadN X7 hx (q := 29) rfl (hb hby at_28) rfl ?_
  refine k_iloadN X7 hx (q := 30) rfl (hb hby at_29) rfl ?_
  refine k_iconst X7 hx (v := (2 : Int32)) rfl (q := 31) rfl (hb hby at_30) ?_
  refine k_iushr X7 hx (q := 32) rfl (hb hby at_31) ?_
  refine k_iconst X7 hx (v := (3 : Int32)) rfl (q := 33) rfl (hb hby at_32) ?_
  refine k_iand X7 hx (q := 34) rfl (hb hby at_33) ?_
  have Od8 : Old Z n0 T7.heap := Old.keep Od5 K7 all0
  have Sz9 : n0 ≤ T7.heap.size := Nat.le_trans Sz6 K7.1
  refine kw_callS X7 hx hZ (y := (⟨"com/example/keyshelf/keyshelf/RuleResultBrokenPinLaw", "draw", "(II)Ljava/lang/String;"⟩ : MethodName)) hown (hw _ (List.mem_of_getElem? (i := 0) rfl)) (hw _ (List.mem_of_getElem? (i := 1) rfl)) (hw _ (List.mem_of_getElem? (i := 2) rfl)) (hw _ (List.mem_of_getElem? (i := 3) rfl)) (by decide) 0 rfl W7 (rm1 l Z a0 hw x1 (((x2.toUInt32 >>> ((2 : Int32) &&& 31).toUInt32).toInt32) &&& (3 : Int32)) T7.heap n0 Sz9 Od8 Nb hxb hb3 cs hcs hS) (by decide) (by decide) (by decide) (by decide) (by rw [hml]; rfl) (as := [(.int x1), (.int (((x2.toUInt32 >>> ((2 : Int32) &&& 31).toUInt32).toInt32) &&& (3 : Int32)))]) (rest := []) pd_12 rfl (by first | exact Nat.le_refl _ | simp [Value.category]) (q := 37) rfl (hb hby at_34) ?_
  rintro _ T10 L10 X10 hZ hown W10 R10 ⟨s4, bs4, rfl, N10q, K10, le10, E10, G110, G210, V10⟩
  have N10 := Fr.app N7 N10q
  show EndG _ _ _ _ _ (T10.setTop (mkF m 37 #[.val (.int x0), .val (.int x1), .val (.int x2), .val (.ref s1), .val (.ref s2), .val (.ref s3), .unset, .unset] [(.ref s4)]))
  have Vgs4 := V10.congr (own_dr_gi x1 Nb)
  refine k_astore X10 hx (L' := #[.val (.int x0), .val (.int x1), .val (.int x2), .val (.ref s1), .val (.ref s2), .val (.ref s3), .val (.ref s4), .unset]) (q := 39) rfl (hb hby at_37) rfl rfl ?_
  refine k_aloadN X10 hx (q := 40) rfl (hb hby at_39) rfl rfl ?_
  refine k_aload X10 hx (q := 42) rfl (hb hby at_40) rfl rfl ?_
  have Od11 : Old Z n0 T10.heap := Old.keep Od8 K10 all0
  have Sz12 : n0 ≤ T10.heap.size := Nat.le_trans Sz9 K10.1
  refine k_callS X10 hx hZ (y := (⟨"com/example/keyshelf/keyshelf/RuleResult", "broken", "(Ljava/lang/String;Ljava/lang/String;)Lcom/example/keyshelf/keyshelf/RuleResult;"⟩ : MethodName)) hown (hw _ (List.mem_of_getElem? (i := 37) rfl)) (hw _ (List.mem_of_getElem? (i := 38) rfl)) (hw _ (List.mem_of_getElem? (i := 39) rfl)) (hw _ (List.mem_of_getElem? (i := 40) rfl)) (by decide) 0 rfl (rm8 l Z a0 hw s1 s2 T10.heap n0 Sz12 Od11 hd hH) (by decide) (by decide) (by decide) (by decide) (by rw [hml]; rfl) (as := [(.ref s1), (.ref s2)]) (rest := []) pd_13 rfl (by first | exact Nat.le_refl _ | simp [Value.category]) (q := 45) rfl (hb hby at_42) ?_
  rintro _ T13 L13 X13 ⟨rr, rfl, N13q, K13, Er, F113, F213, F313⟩
  have N13 := Fr.app N10 N13q
  show EndG _ _ _ _ _ (T13.setTop (mkF m 45 #[.val (.int x0), .val (.int x1), .val (.int x2), .val (.ref s1), .val (.ref s2), .val (.ref s3), .val (.ref s4), .unset] [(.ref rr)]))
  refine k_astore X13 hx (L' := #[.val (.int x0), .val (.int x1), .val (.int x2), .val (.ref s1), .val (.ref s2), .val (.ref s3), .val (.ref s4), .val (.ref rr)]) (q := 47) rfl (hb hby at_45) rfl rfl ?_
  refine k_aload X13 hx (q := 49) rfl (hb hby at_47) rfl rfl ?_
  refine k_callV X13 hx hZ (y := (⟨"com/example/keyshelf/keyshelf/RuleResult", "outcome", "()Lcom/example/keyshelf/keyshelf/RuleResult$Outcome;"⟩ : MethodName)) (z := (⟨"com/example/keyshelf/keyshelf/RuleResult", "outcome", "()Lcom/example/keyshelf/keyshelf/RuleResult$Outcome;"⟩ : MethodName)) hown (hw _ (List.mem_of_getElem? (i := 61) rfl)) (hw _ (List.mem_of_getElem? (i := 62) rfl)) (notFace_of_selects (args := #[]) (mvT hZ (hw _ (List.mem_of_getElem? (i := 64) rfl)))) (hw _ (List.mem_of_getElem? (i := 64) rfl)) (hw _ (List.mem_of_getElem? (i := 63) rfl)) (hw _ (List.mem_of_getElem? (i := 65) rfl)) (hw _ (List.mem_of_getElem? (i := 39) rfl)) (by decide) Er 0 rfl (rm11 l Z a0 hw rr T13.heap n0 hd F213) (by decide) (by decide) (by decide) (by decide) (by rw [hml]; rfl) (a := rr) (as := []) (rest := []) pd_14 rfl (by first | exact Nat.le_refl _ | simp [Value.category]) (q := 52) rfl (hb hby at_49) ?_
  rintro _ T14 L14 X14 ⟨rfl, N14q, e14⟩
  have N14 := Fr.app N13 N14q
  show EndG _ _ _ _ _ (T14.setTop (mkF m 52 #[.val (.int x0), .val (.int x1), .val (.int x2), .val (.ref s1), .val (.ref s2), .val (.ref s3), .val (.ref s4), .val (.ref rr)] [(.ref hd)]))
  have Od15 : Old Z n0 T13.heap := Old.keep Od11 K13 all0
  refine k_getS X14 hx hZ (host := "") hown (Or.inl (hw _ (List.mem_of_getElem? (i := 66) rfl))) Via.refl e14 (v := (.ref hd)) (q := 55) rfl (hb hby at_52) (hH.ext Od15.2) ?_
  intro T16 X16 e16
  refine k_acmp_y X16 hx (q := 60) (by decide) (by decide) (hb hby at_55) rfl rfl (acmp_eq_t rfl) ?_
  refine k_aload X16 hx (q := 62) rfl (hb hby at_60) rfl rfl ?_
  refine k_aload X16 hx (q := 64) rfl (hb hby at_62) rfl rfl ?_
  refine k_callV X16 hx hZ (y := (⟨"com/example/keyshelf/keyshelf/RuleResult", "rule", "()Ljava/lang/String;"⟩ : MethodName)) (z := (⟨"com/example/keyshelf/keyshelf/RuleResult", "rule", "()Ljava/lang/String;"⟩ : MethodName)) hown (hw _ (List.mem_of_getElem? (i := 67) rfl)) (hw _ (List.mem_of_getElem? (i := 68) rfl)) (notFace_of_selects (args := #[]) (mvT hZ (hw _ (List.mem_of_getElem? (i := 70) rfl)))) (hw _ (List.mem_of_getElem? (i := 70) rfl)) (hw _ (List.mem_of_getElem? (i := 69) rfl)) (hw _ (List.mem_of_getElem? (i := 71) rfl)) (hw _ (List.mem_of_getElem? (i := 39) rfl)) (by decide) Er 1 e16 (rm12 l Z a0 hw rr T13.heap n0 s1 F113) (by decide) (by decide) (by decide) (by decide) (by rw [hml]; rfl) (a := rr) (as := []) (rest := [(.ref s3)]) pd_15 rfl (by first | exact Nat.le_refl _ | simp [Value.category]) (q := 67) rfl (hb hby at_64) ?_
  rintro _ T17 L17 X17 ⟨rfl, N17q, e17⟩
  have N17 := Fr.app N14 N17q
  show EndG _ _ _ _ _ (T17.setTop (mkF m 67 #[.val (.int x0), .val (.int x1), .val (.int x2), .val (.ref s1), .val (.ref s2), .val (.ref s3), .val (.ref s4), .val (.ref rr)] [(.ref s1), (.ref s3)]))
  have Gu18 := ((G17.keep K10 nin0).keep K13 nin0)
  have Gu19 := ((G27.keep K10 nin0).keep K13 nin0)
  have Gu20 := ((Vgs3.keep K10 nin0).keep K13 nin0)
  have Gu21 := ((((G11.keep K4 nin0).keep K7 nin0).keep K10 nin0).keep K13 nin0)
  have Gu22 := ((((G21.keep K4 nin0).keep K7 nin0).keep K10 nin0).keep K13 nin0)
  have Gu23 := ((((Vgs1.keep K4 nin0).keep K7 nin0).keep K10 nin0).keep K13 nin0)
  have Gu24 := ((((E1.keep K4).keep K7).keep K10).keep K13)
  have Gu26 := ((E7.keep K10).keep K13)
  refine k_callV X17 hx hZ (y := (⟨"java/lang/String", "equals", "(Ljava/lang/Object;)Z"⟩ : MethodName)) (z := (⟨"java/lang/String", "equals", "(Ljava/lang/Object;)Z"⟩ : MethodName)) hown (hw _ (List.mem_of_getElem? (i := 72) rfl)) (hw _ (List.mem_of_getElem? (i := 73) rfl)) (notFace_of_selects (args := #[]) (mvT hZ (hw _ (List.mem_of_getElem? (i := 75) rfl)))) (hw _ (List.mem_of_getElem? (i := 75) rfl)) (hw _ (List.mem_of_getElem? (i := 74) rfl)) (hw _ (List.mem_of_getElem? (i := 76) rfl)) (hw _ (List.mem_of_getElem? (i := 6) rfl)) (by decide) Gu26 0 e17 (rm13 l Z a0 hw s3 s1 T13.heap n0 Od15 cs hcs hS Gu24 bs3 bs1 Na ha3 (own_gi x0 Na) Gu18 Gu19 Gu20 Gu21 Gu22 Gu23) (by decide) (by decide) (by decide) (by decide) (by rw [hml]; rfl) (a := s3) (as := [(.ref s1)]) (rest := []) pd_16 rfl (by first | exact Nat.le_refl _ | simp [Value.category]) (q := 70) rfl (hb hby at_67) ?_
  rintro _ T25 L25 X25 ⟨rfl, N25q, e25⟩
  have N25 := Fr.app N17 N25q
  show EndG _ _ _ _ _ (T25.setTop (mkF m 70 #[.val (.int x0), .val (.int x1), .val (.int x2), .val (.ref s1), .val (.ref s2), .val (.ref s3), .val (.ref s4), .val (.ref rr)] [(.int (1 : Int32))]))
  refine k_if_ne X25 hx (q1 := 75) (q := 73) (by decide) (by decide) rfl (hb hby at_70) (fun _ => ?_) (fun hc => absurd hc (by decide))
  refine k_aload X25 hx (q := 77) rfl (hb hby at_75) rfl rfl ?_
  refine k_aload X25 hx (q := 79) rfl (hb hby at_77) rfl rfl ?_
  refine k_callV X25 hx hZ (y := (⟨"com/example/keyshelf/keyshelf/RuleResult", "reason", "()Ljava/lang/String;"⟩ : MethodName)) (z := (⟨"com/example/keyshelf/keyshelf/RuleResult", "reason", "()Ljava/lang/String;"⟩ : MethodName)) hown (hw _ (List.mem_of_getElem? (i := 82) rfl)) (hw _ (List.mem_of_getElem? (i := 83) rfl)) (notFace_of_selects (args := #[]) (mvT hZ (hw _ (List.mem_of_getElem? (i := 85) rfl)))) (hw _ (List.mem_of_getElem? (i := 85) rfl)) (hw _ (List.mem_of_getElem? (i := 84) rfl)) (hw _ (List.mem_of_getElem? (i := 86) rfl)) (hw _ (List.mem_of_getElem? (i := 39) rfl)) (by decide) Er 1 e25 (rm15 l Z a0 hw rr T13.heap n0 s2 F313) (by decide) (by decide) (by decide) (by decide) (by rw [hml]; rfl) (a := rr) (as := []) (rest := [(.ref s4)]) pd_15 rfl (by first | exact Nat.le_refl _ | simp [Value.category]) (q := 82) rfl (hb hby at_79) ?_
  rintro _ T28 L28 X28 ⟨rfl, N28q, e28⟩
  have N28 := Fr.app N25 N28q
  show EndG _ _ _ _ _ (T28.setTop (mkF m 82 #[.val (.int x0), .val (.int x1), .val (.int x2), .val (.ref s1), .val (.ref s2), .val (.ref s3), .val (.ref s4), .val (.ref rr)] [(.ref s2), (.ref s4)]))
  have Gu29 := (G110.keep K13 nin0)
  have Gu30 := (G210.keep K13 nin0)
  have Gu31 := (Vgs4.keep K13 nin0)
  have Gu32 := (((G14.keep K7 nin0).keep K10 nin0).keep K13 nin0)
  have Gu33 := (((G24.keep K7 nin0).keep K10 nin0).keep K13 nin0)
  have Gu34 := (((Vgs2.keep K7 nin0).keep K10 nin0).keep K13 nin0)
  have Gu35 := (((E4.keep K7).keep K10).keep K13)
  have Gu37 := (E10.keep K13)
  refine k_callV X28 hx hZ (y := (⟨"java/lang/String", "equals", "(Ljava/lang/Object;)Z"⟩ : MethodName)) (z := (⟨"java/lang/String", "equals", "(Ljava/lang/Object;)Z"⟩ : MethodName)) hown (hw _ (List.mem_of_getElem? (i := 72) rfl)) (hw _ (List.mem_of_getElem? (i := 73) rfl)) (notFace_of_selects (args := #[]) (mvT hZ (hw _ (List.mem_of_getElem? (i := 75) rfl)))) (hw _ (List.mem_of_getElem? (i := 75) rfl)) (hw _ (List.mem_of_getElem? (i := 74) rfl)) (hw _ (List.mem_of_getElem? (i := 76) rfl)) (hw _ (List.mem_of_getElem? (i := 6) rfl)) (by decide) Gu37 0 e28 (rm13 l Z a0 hw s4 s2 T13.heap n0 Od15 cs hcs hS Gu35 bs4 bs2 Nb hb3 (own_gi x1 Nb) Gu29 Gu30 Gu31 Gu32 Gu33 Gu34) (by decide) (by decide) (by decide) (by decide) (by rw [hml]; rfl) (a := s4) (as := [(.ref s2)]) (rest := []) pd_16 rfl (by first | exact Nat.le_refl _ | simp [Value.category]) (q := 85) rfl (hb hby at_82) ?_
  rintro _ T36 L36 X36 ⟨rfl, N36q, e36⟩
  have N36 := Fr.app N28 N36q
  show EndG _ _ _ _ _ (T36.setTop (mkF m 85 #[.val (.int x0), .val (.int x1), .val (.int x2), .val (.ref s1), .val (.ref s2), .val (.ref s3), .val (.ref s4), .val (.ref rr)] [(.int (1 : Int32))]))
  have Kp38 : Keep T10.heap T13.heap [] := Keep.trans (Keep.refl T10.heap []) K13 all0
  have Wd39 := Wd.keep W10 Kp38 no_safe
  exact kw_retN X36 hx (t := .boolean) (by rw [e36]; exact Wd39) hlk (by decide) (by decide) hret (by simp) (hb hby at_85) ⟨rfl, N36⟩
set_option maxRecDepth 65536 in
set_option maxHeartbeats 40000000 in
theorem comes_1 {Post : Tables → Env → Array Value → State → Outcome → State → Prop} (hpost : ∀ tb e args s v u, (limb_1_1.after args s (.returned v) u = true ∧ limb_1_2.after args s (.returned v) u = true ∧ True) → ReturnedEndW s (.returned v) u (Jvm.fieldLocs frame_1_writes args s ++ Jvm.arrayLocs frame_1_arrays args s ++ Jvm.staticLocs frame_1_statics s) 40 1216 → Post tb e args s (.returned v) u) :
    ArmFor flags0 classFile x code maxLocals ret World_1 tables_1 room_1 Calls_1 rest_1 Pre_1 Post := by
  intro l hfl _ _ p e ha hc hk s m args below hf hA hF happ hP
  obtain ⟨hcalls, hrest, hpre⟩ := hP
  obtain ⟨-, -, -, hnamed, -, -, -, hat⟩ := (Spec.applies_iff hf).mp happ
  obtain ⟨hg, hn⟩ := and_e (Cond.before_iff.mp (show (Jvm.Cond.and given_1 narrow_1).before args s = true from hpre))
  obtain ⟨gc, g0⟩ := and_e hg
  obtain ⟨a0, g1⟩ := and_e g0
  obtain ⟨a1, g2⟩ := and_e g1
  obtain ⟨w0, w1, w2, rfl⟩ : ∃ w0 w1 w2 : Value, args = #[w0, w1, w2] := by
    have hs : args.size = 3 := by simpa [Cond.value, given_1] using gc
    obtain ⟨L⟩ := args
    match L, hs with
    | [w0, w1, w2], _ => exact ⟨w0, w1, w2, rfl⟩
  have hw := fun d (hd : d ∈ tables_1) => atoms_spec (ws := Jvm.Cond.code x code maxLocals ret :: tables_1) hat d (List.mem_cons_of_mem _ hd)
  have hfit : Fit s := fun {y c} hc i hi => by
    obtain ⟨ha, rfl⟩ := Array.getElem?_eq_some_iff.mp hc
    have q := List.all_eq_true.mp ((Array.all_eq_true_iff_forall_mem.mp hF) _ (Array.getElem_mem ha)) i (List.mem_range.mpr hi)
    simpa [Array.getElem?_eq_getElem hi] using q
  obtain ⟨i0, ei0⟩ := is_v a0
  obtain rfl : w0 = (.int i0) := Option.some.inj ei0
  obtain ⟨i1, ei1⟩ := is_v a1
  obtain rfl : w1 = (.int i1) := Option.some.inj ei1
  obtain ⟨i2, ei2⟩ := is_v g2
  obtain rfl : w2 = (.int i2) := Option.some.inj ei2
  obtain ⟨hsets, -⟩ := atoms_of _ (rest_1_c_eq ▸ (show rest_1_c.before _ s = true from hrest))
  obtain ⟨cs, ecs⟩ := is_v (Cond.before_iff.mp (hsets _ (List.mem_of_getElem? (i := 1) rfl)))
  have hS : Sta s s.heap "java/lang/String" "COMPACT_STRINGS" "Z" (.int cs) := Sta.start ecs (Or.inl (hsets _ (List.mem_of_getElem? (i := 0) rfl)))
  have n5 := not_v (Cond.before_iff.mp (hsets _ (List.mem_of_getElem? (i := 2) rfl)))
  have hcs : ¬ (cs = (0 : Int32)) := gotF (Cond.eq_ints ecs (Term.int_eval (0))) n5
  have hcw := hsets _ (List.mem_of_getElem? (i := 2) rfl)
  have hCH : CHv s consts_1 s.vm s.heap := CHv.start (own_EL hw) (fun p hp => hcalls.1 p hp) hcw (hw _ (List.mem_of_getElem? (i := 23) rfl)) (hw _ (List.mem_of_getElem? (i := 5) rfl))
  have hn := show narrow_1.value _ s none s [] = some true from hn
  unfold narrow_1 at hn
  obtain ⟨hd, vhd⟩ := exa_v hn
  have hH := Sta.start vhd (Or.inr ⟨(hw _ (List.mem_of_getElem? (i := 44) rfl)), (hw _ (List.mem_of_getElem? (i := 45) rfl))⟩)
  obtain ⟨n, o, h1, h2, h3, _, L, rfl, ⟨rfl, N⟩, -, hq⟩ := rmL l s _ hw i0 i1 i2 s.heap s.heap.size (Nat.le_refl _) (Old.start s) hd hH cs hcs hS p e ha hc hk s m _ below hf ((Spec.applies_iff_loose hf).mp happ).1 ⟨rfl, State.Warmed39.refl s, rfl, hCH⟩ trivial
  refine ⟨n, _, h1, h2, h3, hpost _ _ _ _ _ _ ⟨Cond.after_iff.mpr rfl, Cond.after_iff.mpr (eq_i res_at (Term.int_eval (1)) rfl), trivial⟩ ⟨hq.1, hq.2.1, hq.2.2.1, (hq.2.2.2.sift fun y hy => Or.inr (N y hy)).mono (by decide) (by decide)⟩⟩
theorem main_1_1 : Claimed_1_1 := comes_1 fun _ _ _ _ _ _ h hF => ⟨h.1, hF⟩
theorem main_1_2 : Claimed_1_2 := comes_1 fun _ _ _ _ _ _ h hF => ⟨h.2.1, hF⟩
end Jvm.Pilot.@@N@@
namespace Jvm.Pilot.@@N@@
open Jvm Jvm.ClassFile Sem Op Lib Jvm.Free Jvm.Stand Jvm.Pilot.@@N@@.Jvm.D
/-! MADE BY PROGRAM (witnessworld.py) out of the Statement's table words and the real class files: 23 classes; the members and pool entries that the words name. The judged class is class 1, her method 2. -/
namespace start1
open Jvm.ClassFile
def u (s : String) : CpInfo := .utf8 (stringToUtf16 s)
/-- a pool by its gaps: so many unusable entries, then the entry; so many at the end -/
def gap : Nat → List CpInfo → List CpInfo
  | 0, r => r
  | n + 1, r => .unusable :: gap n r
def poolList (es : List (Nat × CpInfo)) (last : Nat) : List CpInfo := es.foldr (fun e r => gap e.1 (e.2 :: r)) (gap last [])
def pool (es : List (Nat × CpInfo)) (last : Nat) : Array CpInfo := ⟨poolList es last⟩
def fileOf (pool : Array CpInfo) (this : Nat) (attrs : Array Attribute := #[]) (ms : Array MethodInfo := #[]) (fl : Nat := 33) (sup : Nat := 0) (ifs : Array Nat := #[]) (fds : Array FieldInfo := #[]) : ClassFile where
  minorVersion := 0
  majorVersion := 65
  constantPool := pool
  accessFlags := fl
  thisClass := this
  superClass := sup
  interfaces := ifs
  fields := fds
  methods := ms
  attributes := attrs
def plain (name : String) (sup : Option ClassId) : Class where
  name := name
  kind := .ordinary
  loader := none
  accessFlags := 33
  super := sup
  interfaces := #[]
  cf := none
  fields := #[]
  methods := #[]
  instanceTypes := #[]
  staticTypes := #[]
  resolved := #[]
  callSites := []
  init := .initialized
  statics := none
  mirror := none

def pool0 : Array CpInfo := pool [(5, u "<init>"), (0, u "()V"), (1, .class_ 10), (1, u "java/lang/Object")] 113

def k0c0 : Code := { maxStack := 0, maxLocals := 1, code := object_method_1_code, exceptionTable := #[], attributes := #[] }
def k0m0 : Method := { name := "<init>", desc := "()V", sig := { parameters := [], returnType := none }, accessFlags := 1, code := some k0c0 }
/-- java/lang/Object -/
def k0 : Class := { plain "java/lang/Object" none with
  accessFlags := 33
  interfaces := #[]
  cf := some (fileOf pool0 8 #[] #[{ accessFlags := 1, nameIndex := 5, descriptorIndex := 6, attributes := #[] }] 33 0 #[] #[])
  fields := #[]
  methods := #[k0m0]
  instanceTypes := #[]
  staticTypes := #[]
  resolved := Array.replicate 124 none
  statics := none }

def pool1 : Array CpInfo := pool [(2, .class_ 4), (1, u "java/lang/Object"), (0, u "<init>"), (0, u "()V"), (0, .class_ 8), (0, u "java/lang/String"), (0, .methodref 7 10), (0, .nameAndType 5 11), (0, u "([C)V"), (0, .methodref 7 13), (0, .nameAndType 14 15), (0, u "valueOf"), (0, u "(C)Ljava/lang/String;"), (0, .methodref 17 18), (0, .class_ 19), (0, .nameAndType 20 21), (0, u "com/example/keyshelf/keyshelf/RuleResultBrokenPinLaw"), (0, u "draw"), (0, u "(II)Ljava/lang/String;"), (0, .methodref 23 24), (0, .class_ 25), (0, .nameAndType 26 27), (0, u "com/example/keyshelf/keyshelf/RuleResult"), (0, u "broken"), (0, u "(Ljava/lang/String;Ljava/lang/String;)Lcom/example/keyshelf/keyshelf/RuleResult;"), (0, .methodref 23 29), (0, .nameAndType 30 31), (0, u "outcome"), (0, u "()Lcom/example/keyshelf/keyshelf/RuleResult$Outcome;"), (0, .fieldref 33 34), (0, .class_ 35), (0, .nameAndType 36 37), (0, u "com/example/keyshelf/keyshelf/RuleResult$Outcome"), (0, u "BROKEN"), (0, u "Lcom/example/keyshelf/keyshelf/RuleResult$Outcome;"), (0, .methodref 23 39), (0, .nameAndType 40 41), (0, u "rule"), (0, u "()Ljava/lang/String;"), (0, .methodref 7 43), (0, .nameAndType 44 45), (0, u "equals"), (0, u "(Ljava/lang/Object;)Z"), (0, .methodref 23 47), (0, .nameAndType 48 41), (0, u "reason"), (3, u "law"), (0, u "(III)Z")] 4

def k1m0 : Method := { name := "<init>", desc := "()V", sig := { parameters := [], returnType := none }, accessFlags := 1, code := none }
def k1c1 : Code := { maxStack := 6, maxLocals := 5, code := method_2_code, exceptionTable := #[], attributes := #[] }
def k1m1 : Method := { name := "draw", desc := "(II)Ljava/lang/String;", sig := { parameters := [.int, .int], returnType := some (.object "java/lang/String") }, accessFlags := 10, code := some k1c1 }
def k1c2 : Code := { maxStack := 3, maxLocals := 8, code := code, exceptionTable := #[], attributes := #[] }
def k1m2 : Method := { name := "law", desc := "(III)Z", sig := { parameters := [.int, .int, .int], returnType := some .boolean }, accessFlags := 9, code := some k1c2 }
/-- com/example/keyshelf/keyshelf/RuleResultBrokenPinLaw -/
def k1 : Class := { plain "com/example/keyshelf/keyshelf/RuleResultBrokenPinLaw" (some 0) with
  accessFlags := 49
  interfaces := #[]
  cf := some (fileOf pool1 17 #[] #[{ accessFlags := 1, nameIndex := 5, descriptorIndex := 6, attributes := #[] }, { accessFlags := 10, nameIndex := 20, descriptorIndex := 21, attributes := #[] }, { accessFlags := 9, nameIndex := 52, descriptorIndex := 53, attributes := #[] }] 49 2 #[] #[])
  fields := #[]
  methods := #[k1m0, k1m1, k1m2]
  instanceTypes := #[]
  staticTypes := #[]
  resolved := Array.replicate 58 none
  statics := none }

def pool2 : Array CpInfo := pool [(1, .class_ 2), (0, u "java/io/Serializable"), (0, .class_ 4), (0, u "java/lang/Object")] 2

/-- java/io/Serializable -/
def k2 : Class := { plain "java/io/Serializable" (some 0) with
  accessFlags := 1537
  interfaces := #[]
  cf := some (fileOf pool2 1 #[] #[] 1537 3 #[] #[])
  fields := #[]
  methods := #[]
  instanceTypes := #[]
  staticTypes := #[]
  resolved := Array.replicate 7 none
  statics := none }

def pool3 : Array CpInfo := pool [(1, .class_ 2), (0, u "java/lang/Comparable"), (0, .class_ 4), (0, u "java/lang/Object")] 7

/-- java/lang/Comparable -/
def k3 : Class := { plain "java/lang/Comparable" (some 0) with
  accessFlags := 1537
  interfaces := #[]
  cf := some (fileOf pool3 1 #[] #[] 1537 3 #[] #[])
  fields := #[]
  methods := #[]
  instanceTypes := #[]
  staticTypes := #[]
  resolved := Array.replicate 12 none
  statics := none }

def pool4 : Array CpInfo := pool [(2, .class_ 4), (1, u "java/lang/CharSequence"), (42, .class_ 48), (0, u "java/lang/CharSequence$1CodePointIterator"), (10, .class_ 60), (0, u "java/lang/CharSequence$1CharIterator"), (5, .class_ 67), (0, u "java/lang/Object")] 63

/-- java/lang/CharSequence -/
def k4 : Class := { plain "java/lang/CharSequence" (some 0) with
  accessFlags := 1537
  interfaces := #[]
  cf := some (fileOf pool4 2 #[.nestMembers #[47, 59]] #[] 1537 66 #[] #[])
  fields := #[]
  methods := #[]
  instanceTypes := #[]
  staticTypes := #[]
  resolved := Array.replicate 131 none
  statics := none }

def pool5 : Array CpInfo := pool [(1, .class_ 2), (0, u "java/lang/constant/Constable"), (0, .class_ 4), (0, u "java/lang/Object")] 6

/-- java/lang/constant/Constable -/
def k5 : Class := { plain "java/lang/constant/Constable" (some 0) with
  accessFlags := 1537
  interfaces := #[]
  cf := some (fileOf pool5 1 #[] #[] 1537 3 #[] #[])
  fields := #[]
  methods := #[]
  instanceTypes := #[]
  staticTypes := #[]
  resolved := Array.replicate 11 none
  statics := none }

def pool6 : Array CpInfo := pool [(1, .class_ 2), (0, u "java/lang/constant/ConstantDesc"), (0, .class_ 4), (0, u "java/lang/Object")] 32

/-- java/lang/constant/ConstantDesc -/
def k6 : Class := { plain "java/lang/constant/ConstantDesc" (some 0) with
  accessFlags := 1537
  interfaces := #[]
  cf := some (fileOf pool6 1 #[] #[] 1537 3 #[] #[])
  fields := #[]
  methods := #[]
  instanceTypes := #[]
  staticTypes := #[]
  resolved := Array.replicate 37 none
  statics := none }

def pool7 : Array CpInfo := pool [(1, .methodref 2 3), (0, .class_ 4), (0, .nameAndType 5 6), (0, u "java/lang/Object"), (0, u "<init>"), (0, u "()V"), (0, .string 8), (0, u ""), (0, .fieldref 10 11), (0, .class_ 12), (0, .nameAndType 13 14), (0, u "java/lang/String"), (0, u "value"), (0, u "[B"), (0, .fieldref 10 16), (0, .nameAndType 17 18), (0, u "coder"), (0, u "B"), (2, u "hash"), (0, u "I"), (2, u "hashIsZero"), (0, u "Z"), (0, .methodref 10 28), (0, .nameAndType 5 29), (0, u "([CIILjava/lang/Void;)V"), (8, .fieldref 10 39), (0, .nameAndType 40 26), (0, u "COMPACT_STRINGS"), (1, .class_ 44), (1, u "java/lang/StringUTF16"), (0, u "compress"), (1, .methodref 42 48), (0, .nameAndType 49 50), (0, u "coderFromArrayLen"), (0, u "([BI)B"), (2, u "toBytes"), (53, .class_ 109), (1, u "java/lang/StringLatin1"), (67, .methodref 42 178), (0, .nameAndType 45 179), (0, u "([CII)[B"), (29, .methodref 10 210), (0, .nameAndType 5 211), (0, u "([BB)V"), (157, u "(C)Z"), (171, .methodref 107 542), (0, .nameAndType 543 544), (0, u "equals"), (0, u "([B[B)Z"), (28, u "(Ljava/lang/Object;)Z"), (1, .class_ 576), (0, u "java/lang/CharSequence"), (22, u "CASE_INSENSITIVE_ORDER"), (0, u "Ljava/util/Comparator;"), (181, u "valueOf"), (0, u "(C)Ljava/lang/String;"), (226, u "([C)V"), (4, .methodref 107 1016), (0, .nameAndType 1017 369), (0, u "canEncode"), (0, .methodref 107 1019), (0, .nameAndType 53 1020), (0, u "(C)[B"), (80, u "serialPersistentFields"), (0, u "[Ljava/io/ObjectStreamField;"), (0, .class_ 1104), (0, u "java/lang/String$CaseInsensitiveComparator"), (1, .class_ 1107), (0, u "java/io/Serializable"), (0, .class_ 1109), (0, u "java/lang/Comparable"), (0, .class_ 1111), (0, u "java/lang/constant/Constable"), (0, .class_ 1113), (0, u "java/lang/constant/ConstantDesc"), (2, u "serialVersionUID"), (0, u "J"), (3, u "REPL"), (0, u "C"), (2, u "LATIN1"), (1, u "UTF16")] 323

def k7m0 : Method := { name := "<init>", desc := "()V", sig := { parameters := [], returnType := none }, accessFlags := 1, code := none }
def k7c1 : Code := { maxStack := 5, maxLocals := 2, code := jdk_42_method_3_code, exceptionTable := #[], attributes := #[] }
def k7m1 : Method := { name := "<init>", desc := "([C)V", sig := { parameters := [(.array .char)], returnType := none }, accessFlags := 1, code := some k7c1 }
def k7c2 : Code := { maxStack := 2, maxLocals := 3, code := jdk_42_method_66_code, exceptionTable := #[], attributes := #[] }
def k7m2 : Method := { name := "equals", desc := "(Ljava/lang/Object;)Z", sig := { parameters := [(.object "java/lang/Object")], returnType := some .boolean }, accessFlags := 1, code := some k7c2 }
def k7c3 : Code := { maxStack := 4, maxLocals := 1, code := jdk_42_method_139_code, exceptionTable := #[], attributes := #[] }
def k7m3 : Method := { name := "valueOf", desc := "(C)Ljava/lang/String;", sig := { parameters := [.char], returnType := some (.object "java/lang/String") }, accessFlags := 9, code := some k7c3 }
def k7c4 : Code := { maxStack := 4, maxLocals := 6, code := jdk_42_method_149_code, exceptionTable := #[], attributes := #[] }
def k7m4 : Method := { name := "<init>", desc := "([CIILjava/lang/Void;)V", sig := { parameters := [(.array .char), .int, .int, (.object "java/lang/Void")], returnType := none }, accessFlags := 2, code := some k7c4 }
def k7c5 : Code := { maxStack := 2, maxLocals := 3, code := jdk_42_method_151_code, exceptionTable := #[], attributes := #[] }
def k7m5 : Method := { name := "<init>", desc := "([BB)V", sig := { parameters := [(.array .byte), .byte], returnType := none }, accessFlags := 0, code := some k7c5 }
/-- java/lang/String -/
def k7 : Class := { plain "java/lang/String" (some 0) with
  accessFlags := 49
  interfaces := #[2, 3, 4, 5, 6]
  cf := some (fileOf pool7 10 #[.nestMembers #[1103]] #[{ accessFlags := 1, nameIndex := 5, descriptorIndex := 6, attributes := #[] }, { accessFlags := 1, nameIndex := 5, descriptorIndex := 1010, attributes := #[] }, { accessFlags := 1, nameIndex := 543, descriptorIndex := 573, attributes := #[] }, { accessFlags := 9, nameIndex := 782, descriptorIndex := 783, attributes := #[] }, { accessFlags := 2, nameIndex := 5, descriptorIndex := 29, attributes := #[] }, { accessFlags := 0, nameIndex := 5, descriptorIndex := 211, attributes := #[] }] 49 2 #[1106, 1108, 575, 1110, 1112] #[{ accessFlags := 18, nameIndex := 13, descriptorIndex := 14, attributes := #[] }, { accessFlags := 18, nameIndex := 17, descriptorIndex := 18, attributes := #[] }, { accessFlags := 2, nameIndex := 21, descriptorIndex := 22, attributes := #[] }, { accessFlags := 2, nameIndex := 25, descriptorIndex := 26, attributes := #[] }, { accessFlags := 26, nameIndex := 1116, descriptorIndex := 1117, attributes := #[] }, { accessFlags := 24, nameIndex := 40, descriptorIndex := 26, attributes := #[] }, { accessFlags := 26, nameIndex := 1101, descriptorIndex := 1102, attributes := #[] }, { accessFlags := 26, nameIndex := 1121, descriptorIndex := 1122, attributes := #[] }, { accessFlags := 25, nameIndex := 599, descriptorIndex := 600, attributes := #[] }, { accessFlags := 24, nameIndex := 1125, descriptorIndex := 18, attributes := #[] }, { accessFlags := 24, nameIndex := 1127, descriptorIndex := 18, attributes := #[] }])
  fields := #[{ name := "value", type := (.array .byte), accessFlags := 18, slot := 0, constantValue := 0 }, { name := "coder", type := .byte, accessFlags := 18, slot := 1, constantValue := 0 }, { name := "hash", type := .int, accessFlags := 2, slot := 2, constantValue := 0 }, { name := "hashIsZero", type := .boolean, accessFlags := 2, slot := 3, constantValue := 0 }, { name := "serialVersionUID", type := .long, accessFlags := 26, slot := 0, constantValue := 0 }, { name := "COMPACT_STRINGS", type := .boolean, accessFlags := 24, slot := 1, constantValue := 0 }, { name := "serialPersistentFields", type := (.array (.object "java/io/ObjectStreamField")), accessFlags := 26, slot := 2, constantValue := 0 }, { name := "REPL", type := .char, accessFlags := 26, slot := 3, constantValue := 0 }, { name := "CASE_INSENSITIVE_ORDER", type := (.object "java/util/Comparator"), accessFlags := 25, slot := 4, constantValue := 0 }, { name := "LATIN1", type := .byte, accessFlags := 24, slot := 5, constantValue := 0 }, { name := "UTF16", type := .byte, accessFlags := 24, slot := 6, constantValue := 0 }]
  methods := #[k7m0, k7m1, k7m2, k7m3, k7m4, k7m5]
  instanceTypes := #[(.array .byte), .byte, .int, .boolean]
  staticTypes := #[.long, .boolean, (.array (.object "java/io/ObjectStreamField")), .char, (.object "java/util/Comparator"), .byte, .byte]
  resolved := Array.replicate 1451 none
  statics := some 0 }

def pool8 : Array CpInfo := pool [(6, .class_ 8), (1, u "java/lang/Object"), (0, u "<init>"), (0, u "()V"), (1, .class_ 14), (1, u "java/lang/StringUTF16"), (31, u "$assertionsDisabled"), (0, u "Z"), (13, u "HI_BYTE_SHIFT"), (0, u "I"), (2, u "LO_BYTE_SHIFT"), (49, .methodref 12 116), (0, .nameAndType 117 118), (0, u "compress"), (0, u "([CI[BII)I"), (3, u "([CII)[B"), (138, u "coderFromArrayLen"), (0, u "([BI)B"), (106, .class_ 371), (1, u "java/lang/StringUTF16$LinesSpliterator"), (58, u "MAX_LENGTH"), (196, .class_ 628), (0, u "java/lang/StringUTF16$CodePointsSpliterator"), (0, .class_ 630), (0, u "java/lang/StringUTF16$CharsSpliterator")] 4

def k8m0 : Method := { name := "<init>", desc := "()V", sig := { parameters := [], returnType := none }, accessFlags := 0, code := none }
def k8c1 : Code := { maxStack := 2, maxLocals := 2, code := jdk_52_method_15_code, exceptionTable := #[], attributes := #[] }
def k8m1 : Method := { name := "coderFromArrayLen", desc := "([BI)B", sig := { parameters := [(.array .byte), .int], returnType := some .byte }, accessFlags := 8, code := some k8c1 }
def k8c2 : Code := { maxStack := 5, maxLocals := 6, code := jdk_52_method_16_code, exceptionTable := #[], attributes := #[] }
def k8m2 : Method := { name := "compress", desc := "([CII)[B", sig := { parameters := [(.array .char), .int, .int], returnType := some (.array .byte) }, accessFlags := 9, code := some k8c2 }
def k8c3 : Code := { maxStack := 3, maxLocals := 7, code := jdk_52_method_21_code, exceptionTable := #[], attributes := #[] }
def k8m3 : Method := { name := "compress", desc := "([CI[BII)I", sig := { parameters := [(.array .char), .int, (.array .byte), .int, .int], returnType := some .int }, accessFlags := 9, code := some k8c3 }
/-- java/lang/StringUTF16 -/
def k8 : Class := { plain "java/lang/StringUTF16" (some 0) with
  accessFlags := 48
  interfaces := #[]
  cf := some (fileOf pool8 12 #[.nestMembers #[627, 629, 369]] #[{ accessFlags := 0, nameIndex := 9, descriptorIndex := 10, attributes := #[] }, { accessFlags := 8, nameIndex := 261, descriptorIndex := 262, attributes := #[] }, { accessFlags := 9, nameIndex := 117, descriptorIndex := 122, attributes := #[] }, { accessFlags := 9, nameIndex := 117, descriptorIndex := 118, attributes := #[] }] 48 6 #[] #[{ accessFlags := 26, nameIndex := 61, descriptorIndex := 62, attributes := #[] }, { accessFlags := 26, nameIndex := 65, descriptorIndex := 62, attributes := #[] }, { accessFlags := 24, nameIndex := 430, descriptorIndex := 62, attributes := #[] }, { accessFlags := 4120, nameIndex := 46, descriptorIndex := 47, attributes := #[] }])
  fields := #[{ name := "HI_BYTE_SHIFT", type := .int, accessFlags := 26, slot := 0, constantValue := 0 }, { name := "LO_BYTE_SHIFT", type := .int, accessFlags := 26, slot := 1, constantValue := 0 }, { name := "MAX_LENGTH", type := .int, accessFlags := 24, slot := 2, constantValue := 0 }, { name := "$assertionsDisabled", type := .boolean, accessFlags := 4120, slot := 3, constantValue := 0 }]
  methods := #[k8m0, k8m1, k8m2, k8m3]
  instanceTypes := #[]
  staticTypes := #[.int, .int, .int, .boolean]
  resolved := Array.replicate 635 none
  statics := none }

def pool9 : Array CpInfo := pool [(1, .methodref 2 3), (0, .class_ 4), (0, .nameAndType 5 6), (0, u "java/lang/Object"), (0, u "<init>"), (0, u "()V"), (0, .class_ 8), (0, u "java/lang/Record")] 13

def k9c0 : Code := { maxStack := 1, maxLocals := 1, code := jdk_30_method_1_code, exceptionTable := #[], attributes := #[] }
def k9m0 : Method := { name := "<init>", desc := "()V", sig := { parameters := [], returnType := none }, accessFlags := 4, code := some k9c0 }
/-- java/lang/Record -/
def k9 : Class := { plain "java/lang/Record" (some 0) with
  accessFlags := 1057
  interfaces := #[]
  cf := some (fileOf pool9 7 #[] #[{ accessFlags := 4, nameIndex := 5, descriptorIndex := 6, attributes := #[] }] 1057 2 #[] #[])
  fields := #[]
  methods := #[k9m0]
  instanceTypes := #[]
  staticTypes := #[]
  resolved := Array.replicate 22 none
  statics := none }

def pool10 : Array CpInfo := pool [(1, .methodref 2 3), (0, .class_ 4), (0, .nameAndType 5 6), (0, u "java/lang/Record"), (0, u "<init>"), (0, u "()V"), (0, .fieldref 8 9), (0, .class_ 10), (0, .nameAndType 11 12), (0, u "com/example/keyshelf/keyshelf/RuleResult"), (0, u "rule"), (0, u "Ljava/lang/String;"), (0, .fieldref 8 14), (0, .nameAndType 15 16), (0, u "outcome"), (0, u "Lcom/example/keyshelf/keyshelf/RuleResult$Outcome;"), (0, .fieldref 8 18), (0, .nameAndType 19 12), (0, u "reason"), (1, .class_ 23), (1, u "com/example/keyshelf/keyshelf/RuleResult$Outcome"), (3, .methodref 8 28), (0, .nameAndType 5 29), (0, u "(Ljava/lang/String;Lcom/example/keyshelf/keyshelf/RuleResult$Outcome;Ljava/lang/String;)V"), (0, .fieldref 21 31), (0, .nameAndType 32 16), (0, u "BROKEN"), (17, u "broken"), (0, u "(Ljava/lang/String;Ljava/lang/String;)Lcom/example/keyshelf/keyshelf/RuleResult;"), (21, u "()Ljava/lang/String;"), (2, u "()Lcom/example/keyshelf/keyshelf/RuleResult$Outcome;")] 24

def k10c0 : Code := { maxStack := 2, maxLocals := 4, code := prog_6_method_1_code, exceptionTable := #[], attributes := #[] }
def k10m0 : Method := { name := "<init>", desc := "(Ljava/lang/String;Lcom/example/keyshelf/keyshelf/RuleResult$Outcome;Ljava/lang/String;)V", sig := { parameters := [(.object "java/lang/String"), (.object "com/example/keyshelf/keyshelf/RuleResult$Outcome"), (.object "java/lang/String")], returnType := none }, accessFlags := 1, code := some k10c0 }
def k10c1 : Code := { maxStack := 5, maxLocals := 2, code := prog_6_method_3_code, exceptionTable := #[], attributes := #[] }
def k10m1 : Method := { name := "broken", desc := "(Ljava/lang/String;Ljava/lang/String;)Lcom/example/keyshelf/keyshelf/RuleResult;", sig := { parameters := [(.object "java/lang/String"), (.object "java/lang/String")], returnType := some (.object "com/example/keyshelf/keyshelf/RuleResult") }, accessFlags := 9, code := some k10c1 }
def k10c2 : Code := { maxStack := 1, maxLocals := 1, code := prog_6_method_9_code, exceptionTable := #[], attributes := #[] }
def k10m2 : Method := { name := "rule", desc := "()Ljava/lang/String;", sig := { parameters := [], returnType := some (.object "java/lang/String") }, accessFlags := 1, code := some k10c2 }
def k10c3 : Code := { maxStack := 1, maxLocals := 1, code := prog_6_method_10_code, exceptionTable := #[], attributes := #[] }
def k10m3 : Method := { name := "outcome", desc := "()Lcom/example/keyshelf/keyshelf/RuleResult$Outcome;", sig := { parameters := [], returnType := some (.object "com/example/keyshelf/keyshelf/RuleResult$Outcome") }, accessFlags := 1, code := some k10c3 }
def k10c4 : Code := { maxStack := 1, maxLocals := 1, code := prog_6_method_11_code, exceptionTable := #[], attributes := #[] }
def k10m4 : Method := { name := "reason", desc := "()Ljava/lang/String;", sig := { parameters := [], returnType := some (.object "java/lang/String") }, accessFlags := 1, code := some k10c4 }
/-- com/example/keyshelf/keyshelf/RuleResult -/
def k10 : Class := { plain "com/example/keyshelf/keyshelf/RuleResult" (some 9) with
  accessFlags := 49
  interfaces := #[]
  cf := some (fileOf pool10 8 #[.nestMembers #[21]] #[{ accessFlags := 1, nameIndex := 5, descriptorIndex := 29, attributes := #[] }, { accessFlags := 9, nameIndex := 50, descriptorIndex := 51, attributes := #[] }, { accessFlags := 1, nameIndex := 11, descriptorIndex := 73, attributes := #[] }, { accessFlags := 1, nameIndex := 15, descriptorIndex := 76, attributes := #[] }, { accessFlags := 1, nameIndex := 19, descriptorIndex := 73, attributes := #[] }] 49 2 #[] #[{ accessFlags := 18, nameIndex := 11, descriptorIndex := 12, attributes := #[] }, { accessFlags := 18, nameIndex := 15, descriptorIndex := 16, attributes := #[] }, { accessFlags := 18, nameIndex := 19, descriptorIndex := 12, attributes := #[] }])
  fields := #[{ name := "rule", type := (.object "java/lang/String"), accessFlags := 18, slot := 0, constantValue := 0 }, { name := "outcome", type := (.object "com/example/keyshelf/keyshelf/RuleResult$Outcome"), accessFlags := 18, slot := 1, constantValue := 0 }, { name := "reason", type := (.object "java/lang/String"), accessFlags := 18, slot := 2, constantValue := 0 }]
  methods := #[k10m0, k10m1, k10m2, k10m3, k10m4]
  instanceTypes := #[(.object "java/lang/String"), (.object "com/example/keyshelf/keyshelf/RuleResult$Outcome"), (.object "java/lang/String")]
  staticTypes := #[]
  resolved := Array.replicate 101 none
  statics := none }

def pool11 : Array CpInfo := pool [(2, .class_ 4), (1, u "java/lang/Enum"), (0, u "name"), (0, u "Ljava/lang/String;"), (2, u "ordinal"), (0, u "I"), (1, .class_ 14), (1, u "java/lang/Object"), (4, u "hash"), (86, .class_ 108), (1, u "java/lang/Enum$EnumDesc"), (2, .class_ 112), (0, u "java/lang/constant/Constable"), (0, .class_ 114), (0, u "java/lang/Comparable"), (0, .class_ 116), (0, u "java/io/Serializable")] 87

/-- java/lang/Enum -/
def k11 : Class := { plain "java/lang/Enum" (some 0) with
  accessFlags := 1057
  interfaces := #[5, 3, 2]
  cf := some (fileOf pool11 2 #[.nestMembers #[106]] #[] 1057 12 #[111, 113, 115] #[{ accessFlags := 18, nameIndex := 5, descriptorIndex := 6, attributes := #[] }, { accessFlags := 18, nameIndex := 9, descriptorIndex := 10, attributes := #[] }, { accessFlags := 2, nameIndex := 19, descriptorIndex := 10, attributes := #[] }])
  fields := #[{ name := "name", type := (.object "java/lang/String"), accessFlags := 18, slot := 0, constantValue := 0 }, { name := "ordinal", type := .int, accessFlags := 18, slot := 1, constantValue := 0 }, { name := "hash", type := .int, accessFlags := 2, slot := 2, constantValue := 0 }]
  methods := #[]
  instanceTypes := #[(.object "java/lang/String"), .int, .int]
  staticTypes := #[]
  resolved := Array.replicate 204 none
  statics := none }

def pool12 : Array CpInfo := pool [(1, .class_ 2), (0, u "com/example/keyshelf/keyshelf/RuleResult$Outcome"), (2, u "HELD"), (0, u "Lcom/example/keyshelf/keyshelf/RuleResult$Outcome;"), (2, u "BROKEN"), (2, u "SKIPPED"), (2, u "$VALUES"), (0, u "[Lcom/example/keyshelf/keyshelf/RuleResult$Outcome;"), (6, .class_ 25), (1, u "java/lang/Enum"), (26, .class_ 53), (0, u "com/example/keyshelf/keyshelf/RuleResult")] 2

/-- com/example/keyshelf/keyshelf/RuleResult$Outcome -/
def k12 : Class := { plain "com/example/keyshelf/keyshelf/RuleResult$Outcome" (some 11) with
  accessFlags := 16433
  interfaces := #[]
  cf := some (fileOf pool12 1 #[.nestHost 52] #[] 16433 23 #[] #[{ accessFlags := 16409, nameIndex := 5, descriptorIndex := 6, attributes := #[] }, { accessFlags := 16409, nameIndex := 9, descriptorIndex := 6, attributes := #[] }, { accessFlags := 16409, nameIndex := 12, descriptorIndex := 6, attributes := #[] }, { accessFlags := 4122, nameIndex := 15, descriptorIndex := 16, attributes := #[] }])
  fields := #[{ name := "HELD", type := (.object "com/example/keyshelf/keyshelf/RuleResult$Outcome"), accessFlags := 16409, slot := 0, constantValue := 0 }, { name := "BROKEN", type := (.object "com/example/keyshelf/keyshelf/RuleResult$Outcome"), accessFlags := 16409, slot := 1, constantValue := 0 }, { name := "SKIPPED", type := (.object "com/example/keyshelf/keyshelf/RuleResult$Outcome"), accessFlags := 16409, slot := 2, constantValue := 0 }, { name := "$VALUES", type := (.array (.object "com/example/keyshelf/keyshelf/RuleResult$Outcome")), accessFlags := 4122, slot := 3, constantValue := 0 }]
  methods := #[]
  instanceTypes := #[(.object "java/lang/String"), .int, .int]
  staticTypes := #[(.object "com/example/keyshelf/keyshelf/RuleResult$Outcome"), (.object "com/example/keyshelf/keyshelf/RuleResult$Outcome"), (.object "com/example/keyshelf/keyshelf/RuleResult$Outcome"), (.array (.object "com/example/keyshelf/keyshelf/RuleResult$Outcome"))]
  resolved := Array.replicate 56 none
  statics := some 1 }

def pool13 : Array CpInfo := pool [(4, .class_ 6), (1, u "java/lang/Object"), (0, u "<init>"), (0, u "()V"), (5, .class_ 16), (1, u "java/lang/StringLatin1"), (73, u "canEncode"), (14, u "(C)Z"), (15, u "$assertionsDisabled"), (0, u "Z"), (98, .class_ 223), (1, u "java/lang/StringLatin1$LinesSpliterator"), (57, u "equals"), (0, u "([B[B)Z"), (97, u "toBytes"), (1, u "(C)[B"), (7, .class_ 391), (0, u "java/lang/StringLatin1$CharsSpliterator")] 3

def k13m0 : Method := { name := "<init>", desc := "()V", sig := { parameters := [], returnType := none }, accessFlags := 0, code := none }
def k13c1 : Code := { maxStack := 2, maxLocals := 1, code := jdk_43_method_3_code, exceptionTable := #[], attributes := #[] }
def k13m1 : Method := { name := "canEncode", desc := "(C)Z", sig := { parameters := [.char], returnType := some .boolean }, accessFlags := 9, code := some k13c1 }
def k13c2 : Code := { maxStack := 3, maxLocals := 3, code := jdk_43_method_13_code, exceptionTable := #[], attributes := #[] }
def k13m2 : Method := { name := "equals", desc := "([B[B)Z", sig := { parameters := [(.array .byte), (.array .byte)], returnType := some .boolean }, accessFlags := 9, code := some k13c2 }
def k13c3 : Code := { maxStack := 4, maxLocals := 1, code := jdk_43_method_46_code, exceptionTable := #[], attributes := #[] }
def k13m3 : Method := { name := "toBytes", desc := "(C)[B", sig := { parameters := [.char], returnType := some (.array .byte) }, accessFlags := 9, code := some k13c3 }
/-- java/lang/StringLatin1 -/
def k13 : Class := { plain "java/lang/StringLatin1" (some 0) with
  accessFlags := 48
  interfaces := #[]
  cf := some (fileOf pool13 14 #[.nestMembers #[390, 221]] #[{ accessFlags := 0, nameIndex := 7, descriptorIndex := 8, attributes := #[] }, { accessFlags := 9, nameIndex := 90, descriptorIndex := 105, attributes := #[] }, { accessFlags := 9, nameIndex := 281, descriptorIndex := 282, attributes := #[] }, { accessFlags := 9, nameIndex := 380, descriptorIndex := 382, attributes := #[] }] 48 4 #[] #[{ accessFlags := 4120, nameIndex := 121, descriptorIndex := 122, attributes := #[] }])
  fields := #[{ name := "$assertionsDisabled", type := .boolean, accessFlags := 4120, slot := 0, constantValue := 0 }]
  methods := #[k13m0, k13m1, k13m2, k13m3]
  instanceTypes := #[]
  staticTypes := #[.boolean]
  resolved := Array.replicate 395 none
  statics := none }

def pool14 : Array CpInfo := pool [(2, .class_ 4), (1, u "java/lang/Object"), (0, u "<init>"), (0, u "()V"), (17, .class_ 26), (1, u "jdk/internal/util/Preconditions"), (28, .class_ 56), (0, u "jdk/internal/util/Preconditions$4"), (57, .class_ 115), (0, u "jdk/internal/util/Preconditions$1"), (7, u "SIOOBE_FORMATTER"), (0, u "Ljava/util/function/BiFunction;"), (0, .class_ 126), (0, u "jdk/internal/util/Preconditions$2"), (3, u "AIOOBE_FORMATTER"), (0, .class_ 132), (0, u "jdk/internal/util/Preconditions$3"), (3, u "IOOBE_FORMATTER")] 57

def k14m0 : Method := { name := "<init>", desc := "()V", sig := { parameters := [], returnType := none }, accessFlags := 1, code := none }
/-- jdk/internal/util/Preconditions -/
def k14 : Class := { plain "jdk/internal/util/Preconditions" (some 0) with
  accessFlags := 33
  interfaces := #[]
  cf := some (fileOf pool14 24 #[.nestMembers #[55, 131, 125, 114]] #[{ accessFlags := 1, nameIndex := 5, descriptorIndex := 6, attributes := #[] }] 33 2 #[] #[{ accessFlags := 25, nameIndex := 123, descriptorIndex := 124, attributes := #[] }, { accessFlags := 25, nameIndex := 130, descriptorIndex := 124, attributes := #[] }, { accessFlags := 25, nameIndex := 136, descriptorIndex := 124, attributes := #[] }])
  fields := #[{ name := "SIOOBE_FORMATTER", type := (.object "java/util/function/BiFunction"), accessFlags := 25, slot := 0, constantValue := 0 }, { name := "AIOOBE_FORMATTER", type := (.object "java/util/function/BiFunction"), accessFlags := 25, slot := 1, constantValue := 0 }, { name := "IOOBE_FORMATTER", type := (.object "java/util/function/BiFunction"), accessFlags := 25, slot := 2, constantValue := 0 }]
  methods := #[k14m0]
  instanceTypes := #[]
  staticTypes := #[(.object "java/util/function/BiFunction"), (.object "java/util/function/BiFunction"), (.object "java/util/function/BiFunction")]
  resolved := Array.replicate 194 none
  statics := some 2 }

def pool15 : Array CpInfo := pool [(9, u "<init>"), (6, .class_ 18), (1, u "java/lang/Object"), (0, u "()V"), (1, .class_ 23), (1, u "jdk/internal/util/ArraysSupport"), (0, u "LOG2_ARRAY_LONG_INDEX_SCALE"), (0, u "I"), (2, u "U"), (0, u "Ljdk/internal/misc/Unsafe;"), (8, u "BIG_ENDIAN"), (0, u "Z"), (8, u "LOG2_BYTE_BIT_SIZE"), (4, u "LOG2_ARRAY_INT_INDEX_SCALE"), (54, u "JLA"), (0, u "Ljdk/internal/access/JavaLangAccess;"), (11, u "LOG2_ARRAY_BOOLEAN_INDEX_SCALE"), (9, u "LOG2_ARRAY_BYTE_INDEX_SCALE"), (5, u "LOG2_ARRAY_CHAR_INDEX_SCALE"), (5, u "LOG2_ARRAY_SHORT_INDEX_SCALE"), (18, u "LOG2_ARRAY_FLOAT_INDEX_SCALE"), (24, u "LOG2_ARRAY_DOUBLE_INDEX_SCALE"), (89, u "T_BOOLEAN"), (2, u "T_CHAR"), (1, u "T_FLOAT"), (1, u "T_DOUBLE"), (1, u "T_BYTE"), (1, u "T_SHORT"), (1, u "T_INT"), (1, u "T_LONG"), (1, u "SOFT_MAX_ARRAY_LENGTH")] 83

def k15m0 : Method := { name := "<init>", desc := "()V", sig := { parameters := [], returnType := none }, accessFlags := 2, code := none }
/-- jdk/internal/util/ArraysSupport -/
def k15 : Class := { plain "jdk/internal/util/ArraysSupport" (some 0) with
  accessFlags := 33
  interfaces := #[]
  cf := some (fileOf pool15 21 #[] #[{ accessFlags := 2, nameIndex := 9, descriptorIndex := 19, attributes := #[] }] 33 16 #[] #[{ accessFlags := 24, nameIndex := 28, descriptorIndex := 29, attributes := #[] }, { accessFlags := 26, nameIndex := 38, descriptorIndex := 39, attributes := #[] }, { accessFlags := 25, nameIndex := 121, descriptorIndex := 25, attributes := #[] }, { accessFlags := 25, nameIndex := 131, descriptorIndex := 25, attributes := #[] }, { accessFlags := 25, nameIndex := 137, descriptorIndex := 25, attributes := #[] }, { accessFlags := 25, nameIndex := 143, descriptorIndex := 25, attributes := #[] }, { accessFlags := 25, nameIndex := 53, descriptorIndex := 25, attributes := #[] }, { accessFlags := 25, nameIndex := 24, descriptorIndex := 25, attributes := #[] }, { accessFlags := 25, nameIndex := 162, descriptorIndex := 25, attributes := #[] }, { accessFlags := 25, nameIndex := 187, descriptorIndex := 25, attributes := #[] }, { accessFlags := 26, nameIndex := 48, descriptorIndex := 25, attributes := #[] }, { accessFlags := 25, nameIndex := 277, descriptorIndex := 25, attributes := #[] }, { accessFlags := 25, nameIndex := 280, descriptorIndex := 25, attributes := #[] }, { accessFlags := 25, nameIndex := 282, descriptorIndex := 25, attributes := #[] }, { accessFlags := 25, nameIndex := 284, descriptorIndex := 25, attributes := #[] }, { accessFlags := 25, nameIndex := 286, descriptorIndex := 25, attributes := #[] }, { accessFlags := 25, nameIndex := 288, descriptorIndex := 25, attributes := #[] }, { accessFlags := 25, nameIndex := 290, descriptorIndex := 25, attributes := #[] }, { accessFlags := 25, nameIndex := 292, descriptorIndex := 25, attributes := #[] }, { accessFlags := 26, nameIndex := 108, descriptorIndex := 109, attributes := #[] }, { accessFlags := 25, nameIndex := 294, descriptorIndex := 25, attributes := #[] }])
  fields := #[{ name := "U", type := (.object "jdk/internal/misc/Unsafe"), accessFlags := 24, slot := 0, constantValue := 0 }, { name := "BIG_ENDIAN", type := .boolean, accessFlags := 26, slot := 1, constantValue := 0 }, { name := "LOG2_ARRAY_BOOLEAN_INDEX_SCALE", type := .int, accessFlags := 25, slot := 2, constantValue := 0 }, { name := "LOG2_ARRAY_BYTE_INDEX_SCALE", type := .int, accessFlags := 25, slot := 3, constantValue := 0 }, { name := "LOG2_ARRAY_CHAR_INDEX_SCALE", type := .int, accessFlags := 25, slot := 4, constantValue := 0 }, { name := "LOG2_ARRAY_SHORT_INDEX_SCALE", type := .int, accessFlags := 25, slot := 5, constantValue := 0 }, { name := "LOG2_ARRAY_INT_INDEX_SCALE", type := .int, accessFlags := 25, slot := 6, constantValue := 0 }, { name := "LOG2_ARRAY_LONG_INDEX_SCALE", type := .int, accessFlags := 25, slot := 7, constantValue := 0 }, { name := "LOG2_ARRAY_FLOAT_INDEX_SCALE", type := .int, accessFlags := 25, slot := 8, constantValue := 0 }, { name := "LOG2_ARRAY_DOUBLE_INDEX_SCALE", type := .int, accessFlags := 25, slot := 9, constantValue := 0 }, { name := "LOG2_BYTE_BIT_SIZE", type := .int, accessFlags := 26, slot := 10, constantValue := 0 }, { name := "T_BOOLEAN", type := .int, accessFlags := 25, slot := 11, constantValue := 0 }, { name := "T_CHAR", type := .int, accessFlags := 25, slot := 12, constantValue := 0 }, { name := "T_FLOAT", type := .int, accessFlags := 25, slot := 13, constantValue := 0 }, { name := "T_DOUBLE", type := .int, accessFlags := 25, slot := 14, constantValue := 0 }, { name := "T_BYTE", type := .int, accessFlags := 25, slot := 15, constantValue := 0 }, { name := "T_SHORT", type := .int, accessFlags := 25, slot := 16, constantValue := 0 }, { name := "T_INT", type := .int, accessFlags := 25, slot := 17, constantValue := 0 }, { name := "T_LONG", type := .int, accessFlags := 25, slot := 18, constantValue := 0 }, { name := "JLA", type := (.object "jdk/internal/access/JavaLangAccess"), accessFlags := 26, slot := 19, constantValue := 0 }, { name := "SOFT_MAX_ARRAY_LENGTH", type := .int, accessFlags := 25, slot := 20, constantValue := 0 }]
  methods := #[k15m0]
  instanceTypes := #[]
  staticTypes := #[(.object "jdk/internal/misc/Unsafe"), .boolean, .int, .int, .int, .int, .int, .int, .int, .int, .int, .int, .int, .int, .int, .int, .int, .int, .int, (.object "jdk/internal/access/JavaLangAccess"), .int]
  resolved := Array.replicate 378 none
  statics := none }

def pool16 : Array CpInfo := pool [(1, u "java/lang/Cloneable"), (0, .class_ 1), (0, u "java/lang/Object"), (0, .class_ 3)] 3

/-- java/lang/Cloneable -/
def k16 : Class := { plain "java/lang/Cloneable" (some 0) with
  accessFlags := 1537
  interfaces := #[]
  cf := some (fileOf pool16 2 #[] #[] 1537 4 #[] #[])
  fields := #[]
  methods := #[]
  instanceTypes := #[]
  staticTypes := #[]
  resolved := Array.replicate 8 none
  statics := none }

/-- the primitive byte -/
def k17 : Class := { plain "byte" none with kind := .primitive 'B', accessFlags := 0x411 }
/-- [B -/
def k18 : Class := { plain "[B" (some 0) with kind := .array 17 .byte, interfaces := #[16, 2], accessFlags := 1041 }

/-- the primitive char -/
def k19 : Class := { plain "char" none with kind := .primitive 'C', accessFlags := 0x411 }
/-- [C -/
def k20 : Class := { plain "[C" (some 0) with kind := .array 19 .char, interfaces := #[16, 2], accessFlags := 1041 }

/-- the primitive int -/
def k21 : Class := { plain "int" none with kind := .primitive 'I', accessFlags := 0x411 }
/-- [I -/
def k22 : Class := { plain "[I" (some 0) with kind := .array 21 .int, interfaces := #[16, 2], accessFlags := 1041 }

def heap : Heap := #[{ cls := 7, slots := #[.long 0, .int 1, .null, .int 0, .null, .int 0, .int 0], vm := .statics 7 },
  { cls := 12, slots := #[.null, .ref 3, .null, .null], vm := .statics 12 },
  { cls := 14, slots := #[.null, .null, .null], vm := .statics 14 },
  { cls := 12, slots := #[.null, .int 0, .int 0], vm := .none }]
def classes : Array Class := #[k0, k1, k2, k3, k4, k5, k6, k7, k8, k9, k10, k11, k12, k13, k14, k15, k16, k17, k18, k19, k20, k21, k22]
def interned : List (Array UInt16 × Addr) := []
def slotsUsed : Nat := 17
def theMethod : MethodId := ⟨1, 2⟩
def args0 : Array Value := #[.int 65, .int 66, .int 6]
def aboutOver (below : List Frame) : State where
  vm := { classes := classes, interned := interned.toArray }
  heap := heap
  slotsUsed := slotsUsed
  threads := #[{ frames := .invoking theMethod args0 :: below }]
def below0 : List Frame := [.native { method := ⟨0, 0⟩, args := #[] }]
def about1 : State := aboutOver below0
def p0 : Program := .bare "" "" ""
def e0 : Env := launch0.env 0 0 0
theorem w_frames : about1.frames = Frame.invoking theMethod args0 :: below0 := rfl
set_option maxRecDepth 65536 in
theorem w_args : argsFit about1.vm theMethod args0 = true := by decide +kernel
set_option maxRecDepth 65536 in
theorem w_heap : heapFits about1 = true := by decide +kernel
set_option maxRecDepth 65536 in
theorem w_runnable : about1.curStatus? = some .runnable := by decide +kernel
set_option maxRecDepth 65536 in
theorem w_alone : about1.alone = true := by decide +kernel
set_option maxRecDepth 65536 in
theorem w_named : about1.methodNamed? x = some theMethod := by decide +kernel
set_option maxRecDepth 65536 in
theorem w_hears : about1.hears theMethod below0 = true := by decide +kernel
set_option maxRecDepth 65536 in
theorem w_ripe : about1.ripe theMethod args0 below0 = true := by decide +kernel
theorem w_running : about1.status = .running := rfl
set_option maxRecDepth 65536 in
theorem w_room : about1.hasRoom e0.platform room_1 = true :=
  launch0.hasRoom_least _ room_1 (by decide +kernel) (by decide +kernel) (by decide +kernel) (by decide +kernel) (by decide +kernel) (by decide +kernel)
theorem allAtoms_all (ts : List Jvm.Cond) (a : Array Jvm.Value) (st : Jvm.State) : (allAtoms ts).before a st = ts.all (fun c => c.before a st) := by
  induction ts with
  | nil => rfl
  | cons c t ih =>
    show (Jvm.Cond.and c (allAtoms t)).before a st = _
    rw [Jvm.Cond.before_and, ih, List.all_cons]
def words1 : List Jvm.Cond := Jvm.Cond.code x code maxLocals ret :: tables_1
/-- a 'code' word, met by the world's own term for the bytes: nothing is compared byte by byte -/
theorem code_word {y : MethodName} {bytes : ByteArray} {mx : Nat} {rt : Option FieldType} {a : Array Value} {s : State} {m : MethodId} {meth : Method} {c : Code} (h1 : s.methodNamed? y = some m) (h2 : s.vm.method? m = some meth) (h3 : meth.code = some c) (h4 : c.code = bytes)
    (h5 : (c.maxLocals == mx && c.exceptionTable.isEmpty && decide (c.maxStack ≤ mostOperands) && decide (meth.sig.returnType = rt) && !meth.locks && decide (parseMethodDescriptor y.desc = some meth.sig)) = true) : (Jvm.Cond.code y bytes mx rt).before a s = true := by
  simp only [Bool.and_eq_true, beq_iff_eq, Bool.not_eq_true', decide_eq_true_eq] at h5
  obtain ⟨⟨⟨⟨⟨g1, g2⟩, g3⟩, g4⟩, g5⟩, g6⟩ := h5
  simp [Cond.before, Cond.holds, Cond.value, h1, h2, h3, h4, g1, g2, g3, g4, g5, g6]
def isCode : Jvm.Cond → Bool
  | .code _ _ _ _ => true
  | _ => false
theorem all_split {L : List Jvm.Cond} {P : Jvm.Cond → Bool} (h1 : L.all (fun c => isCode c || P c) = true) (h2 : ∀ c ∈ L.filter isCode, P c = true) : L.all P = true := by
  refine List.all_eq_true.mpr fun c hc => ?_
  have h := List.all_eq_true.mp h1 c hc
  rcases Bool.eq_false_or_eq_true (isCode c) with hi | hi
  · exact h2 c (List.mem_filter.mpr ⟨hc, hi⟩)
  · simpa [hi] using h
set_option maxRecDepth 65536 in
theorem w_c0 : (Jvm.Cond.code x code maxLocals ret).before args0 about1 = true := code_word (m := ⟨1, 2⟩) (meth := k1m2) (c := k1c2) (by decide +kernel) rfl rfl rfl (by decide +kernel)
set_option maxRecDepth 65536 in
theorem w_c1 : (Jvm.Cond.code ({ cls := "com/example/keyshelf/keyshelf/RuleResultBrokenPinLaw", name := "draw", desc := "(II)Ljava/lang/String;" } : Jvm.MethodName) method_2_code (5 : Nat) (Option.some (Jvm.ClassFile.FieldType.object "java/lang/String"))).before args0 about1 = true := code_word (m := ⟨1, 1⟩) (meth := k1m1) (c := k1c1) (by decide +kernel) rfl rfl rfl (by decide +kernel)
set_option maxRecDepth 65536 in
theorem w_c2 : (Jvm.Cond.code ({ cls := "java/lang/String", name := "<init>", desc := "([C)V" } : Jvm.MethodName) jdk_42_method_3_code (2 : Nat) (Option.none : Option Jvm.ClassFile.FieldType)).before args0 about1 = true := code_word (m := ⟨7, 1⟩) (meth := k7m1) (c := k7c1) (by decide +kernel) rfl rfl rfl (by decide +kernel)
set_option maxRecDepth 65536 in
theorem w_c3 : (Jvm.Cond.code ({ cls := "java/lang/String", name := "<init>", desc := "([CIILjava/lang/Void;)V" } : Jvm.MethodName) jdk_42_method_149_code (6 : Nat) (Option.none : Option Jvm.ClassFile.FieldType)).before args0 about1 = true := code_word (m := ⟨7, 4⟩) (meth := k7m4) (c := k7c4) (by decide +kernel) rfl rfl rfl (by decide +kernel)
set_option maxRecDepth 65536 in
theorem w_c4 : (Jvm.Cond.code ({ cls := "java/lang/Object", name := "<init>", desc := "()V" } : Jvm.MethodName) object_method_1_code (1 : Nat) (Option.none : Option Jvm.ClassFile.FieldType)).before args0 about1 = true := code_word (m := ⟨0, 0⟩) (meth := k0m0) (c := k0c0) (by decide +kernel) rfl rfl rfl (by decide +kernel)
set_option maxRecDepth 65536 in
theorem w_c5 : (Jvm.Cond.code ({ cls := "java/lang/StringUTF16", name := "compress", desc := "([CII)[B" } : Jvm.MethodName) jdk_52_method_16_code (6 : Nat) (Option.some (Jvm.ClassFile.FieldType.array Jvm.ClassFile.FieldType.byte))).before args0 about1 = true := code_word (m := ⟨8, 2⟩) (meth := k8m2) (c := k8c2) (by decide +kernel) rfl rfl rfl (by decide +kernel)
set_option maxRecDepth 65536 in
theorem w_c6 : (Jvm.Cond.code ({ cls := "java/lang/StringUTF16", name := "compress", desc := "([CI[BII)I" } : Jvm.MethodName) jdk_52_method_21_code (7 : Nat) (Option.some Jvm.ClassFile.FieldType.int)).before args0 about1 = true := code_word (m := ⟨8, 3⟩) (meth := k8m3) (c := k8c3) (by decide +kernel) rfl rfl rfl (by decide +kernel)
set_option maxRecDepth 65536 in
theorem w_c7 : (Jvm.Cond.code ({ cls := "java/lang/StringUTF16", name := "coderFromArrayLen", desc := "([BI)B" } : Jvm.MethodName) jdk_52_method_15_code (2 : Nat) (Option.some Jvm.ClassFile.FieldType.byte)).before args0 about1 = true := code_word (m := ⟨8, 1⟩) (meth := k8m1) (c := k8c1) (by decide +kernel) rfl rfl rfl (by decide +kernel)
set_option maxRecDepth 65536 in
theorem w_c8 : (Jvm.Cond.code ({ cls := "com/example/keyshelf/keyshelf/RuleResult", name := "broken", desc := "(Ljava/lang/String;Ljava/lang/String;)Lcom/example/keyshelf/keyshelf/RuleResult;" } : Jvm.MethodName) prog_6_method_3_code (2 : Nat) (Option.some (Jvm.ClassFile.FieldType.object "com/example/keyshelf/keyshelf/RuleResult"))).before args0 about1 = true := code_word (m := ⟨10, 1⟩) (meth := k10m1) (c := k10c1) (by decide +kernel) rfl rfl rfl (by decide +kernel)
set_option maxRecDepth 65536 in
theorem w_c9 : (Jvm.Cond.code ({ cls := "com/example/keyshelf/keyshelf/RuleResult", name := "<init>", desc := "(Ljava/lang/String;Lcom/example/keyshelf/keyshelf/RuleResult$Outcome;Ljava/lang/String;)V" } : Jvm.MethodName) prog_6_method_1_code (4 : Nat) (Option.none : Option Jvm.ClassFile.FieldType)).before args0 about1 = true := code_word (m := ⟨10, 0⟩) (meth := k10m0) (c := k10c0) (by decide +kernel) rfl rfl rfl (by decide +kernel)
set_option maxRecDepth 65536 in
theorem w_c10 : (Jvm.Cond.code ({ cls := "java/lang/Record", name := "<init>", desc := "()V" } : Jvm.MethodName) jdk_30_method_1_code (1 : Nat) (Option.none : Option Jvm.ClassFile.FieldType)).before args0 about1 = true := code_word (m := ⟨9, 0⟩) (meth := k9m0) (c := k9c0) (by decide +kernel) rfl rfl rfl (by decide +kernel)
set_option maxRecDepth 65536 in
theorem w_c11 : (Jvm.Cond.code ({ cls := "com/example/keyshelf/keyshelf/RuleResult", name := "outcome", desc := "()Lcom/example/keyshelf/keyshelf/RuleResult$Outcome;" } : Jvm.MethodName) prog_6_method_10_code (1 : Nat) (Option.some (Jvm.ClassFile.FieldType.object "com/example/keyshelf/keyshelf/RuleResult$Outcome"))).before args0 about1 = true := code_word (m := ⟨10, 3⟩) (meth := k10m3) (c := k10c3) (by decide +kernel) rfl rfl rfl (by decide +kernel)
set_option maxRecDepth 65536 in
theorem w_c12 : (Jvm.Cond.code ({ cls := "com/example/keyshelf/keyshelf/RuleResult", name := "rule", desc := "()Ljava/lang/String;" } : Jvm.MethodName) prog_6_method_9_code (1 : Nat) (Option.some (Jvm.ClassFile.FieldType.object "java/lang/String"))).before args0 about1 = true := code_word (m := ⟨10, 2⟩) (meth := k10m2) (c := k10c2) (by decide +kernel) rfl rfl rfl (by decide +kernel)
set_option maxRecDepth 65536 in
theorem w_c13 : (Jvm.Cond.code ({ cls := "java/lang/String", name := "equals", desc := "(Ljava/lang/Object;)Z" } : Jvm.MethodName) jdk_42_method_66_code (3 : Nat) (Option.some Jvm.ClassFile.FieldType.boolean)).before args0 about1 = true := code_word (m := ⟨7, 2⟩) (meth := k7m2) (c := k7c2) (by decide +kernel) rfl rfl rfl (by decide +kernel)
set_option maxRecDepth 65536 in
theorem w_c14 : (Jvm.Cond.code ({ cls := "java/lang/StringLatin1", name := "equals", desc := "([B[B)Z" } : Jvm.MethodName) jdk_43_method_13_code (3 : Nat) (Option.some Jvm.ClassFile.FieldType.boolean)).before args0 about1 = true := code_word (m := ⟨13, 2⟩) (meth := k13m2) (c := k13c2) (by decide +kernel) rfl rfl rfl (by decide +kernel)
set_option maxRecDepth 65536 in
theorem w_c15 : (Jvm.Cond.code ({ cls := "com/example/keyshelf/keyshelf/RuleResult", name := "reason", desc := "()Ljava/lang/String;" } : Jvm.MethodName) prog_6_method_11_code (1 : Nat) (Option.some (Jvm.ClassFile.FieldType.object "java/lang/String"))).before args0 about1 = true := code_word (m := ⟨10, 4⟩) (meth := k10m4) (c := k10c4) (by decide +kernel) rfl rfl rfl (by decide +kernel)
set_option maxRecDepth 65536 in
theorem w_c16 : (Jvm.Cond.code ({ cls := "java/lang/String", name := "valueOf", desc := "(C)Ljava/lang/String;" } : Jvm.MethodName) jdk_42_method_139_code (1 : Nat) (Option.some (Jvm.ClassFile.FieldType.object "java/lang/String"))).before args0 about1 = true := code_word (m := ⟨7, 3⟩) (meth := k7m3) (c := k7c3) (by decide +kernel) rfl rfl rfl (by decide +kernel)
set_option maxRecDepth 65536 in
theorem w_c17 : (Jvm.Cond.code ({ cls := "java/lang/StringLatin1", name := "canEncode", desc := "(C)Z" } : Jvm.MethodName) jdk_43_method_3_code (1 : Nat) (Option.some Jvm.ClassFile.FieldType.boolean)).before args0 about1 = true := code_word (m := ⟨13, 1⟩) (meth := k13m1) (c := k13c1) (by decide +kernel) rfl rfl rfl (by decide +kernel)
set_option maxRecDepth 65536 in
theorem w_c18 : (Jvm.Cond.code ({ cls := "java/lang/StringLatin1", name := "toBytes", desc := "(C)[B" } : Jvm.MethodName) jdk_43_method_46_code (1 : Nat) (Option.some (Jvm.ClassFile.FieldType.array Jvm.ClassFile.FieldType.byte))).before args0 about1 = true := code_word (m := ⟨13, 3⟩) (meth := k13m3) (c := k13c3) (by decide +kernel) rfl rfl rfl (by decide +kernel)
set_option maxRecDepth 65536 in
theorem w_c19 : (Jvm.Cond.code ({ cls := "java/lang/String", name := "<init>", desc := "([BB)V" } : Jvm.MethodName) jdk_42_method_151_code (3 : Nat) (Option.none : Option Jvm.ClassFile.FieldType)).before args0 about1 = true := code_word (m := ⟨7, 5⟩) (meth := k7m5) (c := k7c5) (by decide +kernel) rfl rfl rfl (by decide +kernel)
def codes1 : List Jvm.Cond := [Jvm.Cond.code x code maxLocals ret, Jvm.Cond.code ({ cls := "com/example/keyshelf/keyshelf/RuleResultBrokenPinLaw", name := "draw", desc := "(II)Ljava/lang/String;" } : Jvm.MethodName) method_2_code (5 : Nat) (Option.some (Jvm.ClassFile.FieldType.object "java/lang/String")), Jvm.Cond.code ({ cls := "java/lang/String", name := "<init>", desc := "([C)V" } : Jvm.MethodName) jdk_42_method_3_code (2 : Nat) (Option.none : Option Jvm.ClassFile.FieldType), Jvm.Cond.code ({ cls := "java/lang/String", name := "<init>", desc := "([CIILjava/lang/Void;)V" } : Jvm.MethodName) jdk_42_method_149_code (6 : Nat) (Option.none : Option Jvm.ClassFile.FieldType), Jvm.Cond.code ({ cls := "java/lang/Object", name := "<init>", desc := "()V" } : Jvm.MethodName) object_method_1_code (1 : Nat) (Option.none : Option Jvm.ClassFile.FieldType), Jvm.Cond.code ({ cls := "java/lang/StringUTF16", name := "compress", desc := "([CII)[B" } : Jvm.MethodName) jdk_52_method_16_code (6 : Nat) (Option.some (Jvm.ClassFile.FieldType.array Jvm.ClassFile.FieldType.byte)), Jvm.Cond.code ({ cls := "java/lang/StringUTF16", name := "compress", desc := "([CI[BII)I" } : Jvm.MethodName) jdk_52_method_21_code (7 : Nat) (Option.some Jvm.ClassFile.FieldType.int), Jvm.Cond.code ({ cls := "java/lang/StringUTF16", name := "coderFromArrayLen", desc := "([BI)B" } : Jvm.MethodName) jdk_52_method_15_code (2 : Nat) (Option.some Jvm.ClassFile.FieldType.byte), Jvm.Cond.code ({ cls := "com/example/keyshelf/keyshelf/RuleResult", name := "broken", desc := "(Ljava/lang/String;Ljava/lang/String;)Lcom/example/keyshelf/keyshelf/RuleResult;" } : Jvm.MethodName) prog_6_method_3_code (2 : Nat) (Option.some (Jvm.ClassFile.FieldType.object "com/example/keyshelf/keyshelf/RuleResult")), Jvm.Cond.code ({ cls := "com/example/keyshelf/keyshelf/RuleResult", name := "<init>", desc := "(Ljava/lang/String;Lcom/example/keyshelf/keyshelf/RuleResult$Outcome;Ljava/lang/String;)V" } : Jvm.MethodName) prog_6_method_1_code (4 : Nat) (Option.none : Option Jvm.ClassFile.FieldType), Jvm.Cond.code ({ cls := "java/lang/Record", name := "<init>", desc := "()V" } : Jvm.MethodName) jdk_30_method_1_code (1 : Nat) (Option.none : Option Jvm.ClassFile.FieldType), Jvm.Cond.code ({ cls := "com/example/keyshelf/keyshelf/RuleResult", name := "outcome", desc := "()Lcom/example/keyshelf/keyshelf/RuleResult$Outcome;" } : Jvm.MethodName) prog_6_method_10_code (1 : Nat) (Option.some (Jvm.ClassFile.FieldType.object "com/example/keyshelf/keyshelf/RuleResult$Outcome")), Jvm.Cond.code ({ cls := "com/example/keyshelf/keyshelf/RuleResult", name := "rule", desc := "()Ljava/lang/String;" } : Jvm.MethodName) prog_6_method_9_code (1 : Nat) (Option.some (Jvm.ClassFile.FieldType.object "java/lang/String")), Jvm.Cond.code ({ cls := "java/lang/String", name := "equals", desc := "(Ljava/lang/Object;)Z" } : Jvm.MethodName) jdk_42_method_66_code (3 : Nat) (Option.some Jvm.ClassFile.FieldType.boolean), Jvm.Cond.code ({ cls := "java/lang/StringLatin1", name := "equals", desc := "([B[B)Z" } : Jvm.MethodName) jdk_43_method_13_code (3 : Nat) (Option.some Jvm.ClassFile.FieldType.boolean), Jvm.Cond.code ({ cls := "com/example/keyshelf/keyshelf/RuleResult", name := "reason", desc := "()Ljava/lang/String;" } : Jvm.MethodName) prog_6_method_11_code (1 : Nat) (Option.some (Jvm.ClassFile.FieldType.object "java/lang/String")), Jvm.Cond.code ({ cls := "java/lang/String", name := "valueOf", desc := "(C)Ljava/lang/String;" } : Jvm.MethodName) jdk_42_method_139_code (1 : Nat) (Option.some (Jvm.ClassFile.FieldType.object "java/lang/String")), Jvm.Cond.code ({ cls := "java/lang/StringLatin1", name := "canEncode", desc := "(C)Z" } : Jvm.MethodName) jdk_43_method_3_code (1 : Nat) (Option.some Jvm.ClassFile.FieldType.boolean), Jvm.Cond.code ({ cls := "java/lang/StringLatin1", name := "toBytes", desc := "(C)[B" } : Jvm.MethodName) jdk_43_method_46_code (1 : Nat) (Option.some (Jvm.ClassFile.FieldType.array Jvm.ClassFile.FieldType.byte)), Jvm.Cond.code ({ cls := "java/lang/String", name := "<init>", desc := "([BB)V" } : Jvm.MethodName) jdk_42_method_151_code (3 : Nat) (Option.none : Option Jvm.ClassFile.FieldType)]
set_option maxRecDepth 65536 in
theorem codes_eq : words1.filter isCode = codes1 := rfl
theorem w_codes : ∀ c ∈ words1.filter isCode, c.before args0 about1 = true := by
  rw [codes_eq]
  intro c hc
  simp only [codes1, List.mem_cons, List.not_mem_nil, or_false] at hc
  rcases hc with rfl | rfl | rfl | rfl | rfl | rfl | rfl | rfl | rfl | rfl | rfl | rfl | rfl | rfl | rfl | rfl | rfl | rfl | rfl | rfl
  · exact w_c0
  · exact w_c1
  · exact w_c2
  · exact w_c3
  · exact w_c4
  · exact w_c5
  · exact w_c6
  · exact w_c7
  · exact w_c8
  · exact w_c9
  · exact w_c10
  · exact w_c11
  · exact w_c12
  · exact w_c13
  · exact w_c14
  · exact w_c15
  · exact w_c16
  · exact w_c17
  · exact w_c18
  · exact w_c19
set_option maxRecDepth 65536 in
theorem w_t1 : (words1.take 24).all (fun c => isCode c || c.before args0 about1) = true := by decide +kernel
set_option maxRecDepth 65536 in
theorem w_t2 : ((words1.drop 24).take 24).all (fun c => isCode c || c.before args0 about1) = true := by decide +kernel
set_option maxRecDepth 65536 in
theorem w_t3 : (((words1.drop 24).drop 24).take 24).all (fun c => isCode c || c.before args0 about1) = true := by decide +kernel
set_option maxRecDepth 65536 in
theorem w_t4 : ((((words1.drop 24).drop 24).drop 24).take 24).all (fun c => isCode c || c.before args0 about1) = true := by decide +kernel
set_option maxRecDepth 65536 in
theorem w_t5 : ((((words1.drop 24).drop 24).drop 24).drop 24).all (fun c => isCode c || c.before args0 about1) = true := by decide +kernel
theorem w_tables : (allAtoms (Jvm.Cond.code x code maxLocals ret :: tables_1)).before args0 about1 = true := by
  rw [allAtoms_all]
  show words1.all (fun c => c.before args0 about1) = true
  refine all_split ?_ w_codes
  rw [← List.take_append_drop 24 words1, List.all_append, w_t1, ← List.take_append_drop 24 (words1.drop 24), List.all_append, w_t2, ← List.take_append_drop 24 ((words1.drop 24).drop 24), List.all_append, w_t3, ← List.take_append_drop 24 (((words1.drop 24).drop 24).drop 24), List.all_append, w_t4, w_t5]
  rfl
set_option maxRecDepth 65536 in
theorem w_rest : rest_1_c.before args0 about1 = true := by decide +kernel
set_option maxRecDepth 65536 in
theorem w_case : (Jvm.Cond.and given_1 narrow_1).before args0 about1 = true := by decide +kernel
set_option maxRecDepth 65536 in
theorem w_consts : constsHeld consts_1 about1 := Jvm.Lit.constsHeldB_iff.mp (by decide +kernel)
theorem w_applies : (headSpec (Jvm.Cond.code x code maxLocals ret :: tables_1) room_1).applies x e0.platform about1 = true :=
  (Spec.applies_iff w_frames).mpr ⟨w_running, w_runnable, w_alone, w_named, w_hears, w_ripe, w_room, w_tables⟩
theorem atStart : AtStart classFile x code maxLocals ret World_1 tables_1 room_1 Calls_1 rest_1 Pre_1 launch0 p0 e0 about1 theMethod args0 below0 :=
  ⟨lists_1, trivial, launch0.admits_env _ _ _, launch0.least_env, fairChoices_fair.cas, fairChoices_fair.clock, w_frames, w_args, w_heap, w_applies, ⟨w_consts, trivial⟩, w_rest, w_case⟩
end start1
theorem witness_1 : WitnessClaimed_1 := ⟨start1.p0, start1.e0, start1.about1, start1.theMethod, start1.args0, start1.below0, start1.atStart⟩
end Jvm.Pilot.@@N@@
