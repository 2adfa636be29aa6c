import JvmDerived
import JvmDerived.Pilot.@@N@@Statement
import JvmDerived.Pilot.@@N@@Code
set_option linter.unusedVariables false
set_option linter.unusedSimpArgs false
namespace Jvm.OwnK
open Sem ClassFile Op Lib Jvm.Stand Jvm.Free Jvm.LawKit Jvm.RoadKit
/-- from cur the body's run returns; Q holds of what it returns, the heap then, the places written; F of the end -/
def EndG (p : Program) (e : Env) (below : List Frame) (F : Outcome → State → List Loc → Prop) (Q : Option Value → Heap → List Loc → Prop) (cur : State) : Prop :=
  ∃ s₂ o, Steps p.tables e below cur s₂ ∧ s₂.status = .running ∧ Ended s₂ below o ∧ ∃ v L, o = .returned v ∧ Q v s₂.heap L ∧ F o s₂ L
abbrev End (p : Program) (e : Env) (below : List Frame) (s : State) (Q : Option Value → Heap → List Loc → Prop) (cl sl : Nat) (cur : State) : Prop := EndG p e below (fun o t L => FrameEnd s o t L cl sl) Q cur
/-- a body's contract: entered with the arguments 'as' at the heap h (tables warmer than Z's) it returns, and Q holds -/
def Con (l : Launch) (Z : State) (y : MethodName) (bytes : ByteArray) (maxL : Nat) (ret : Option FieldType) (ws : List Cond) (rm : Room) (as : Array Value) (h : Heap) (Q : Option Value → Heap → List Loc → Prop) : Prop :=
  MetFree l y (head1 (Cond.code y bytes maxL ret :: ws) rm) (fun a U => a = as ∧ Z.Warmed39 U.vm ∧ U.heap = h) (fun _ _ _ _ _ => True) (fun _ U o U' => ∃ v L, o = .returned v ∧ Q v U'.heap L ∧ FrameEnd U o U' L rm.cells rm.slots)
theorem retI_eq {a b : Int32} (h : b = a) : (some (Value.int a) : Option Value) = some (.int b) := by rw [h]
theorem retJ_eq {a b : Int64} (h : b = a) : (some (Value.long a) : Option Value) = some (.long b) := by rw [h]
theorem retD_eq {a b : UInt64} (h : b = a) : (some (Value.double a) : Option Value) = some (.double b) := by rw [h]
section Steps
variable {p : Program} {l : Launch} {e : Env} {R : Room} {s : State} {m : MethodId} {args : Array Value} {below : List Frame} {meth : Method} {c : Code} {T : State} {locs : List Loc} {cells slots : Nat} {Fe : Outcome → State → List Loc → Prop} {Q : Option Value → Heap → List Loc → Prop} {cl sl : Nat} {pc q : Nat} {Ls : Array Slot} {rest : List Value}
theorem EndG.st {cur nxt : State} (k : EndG p e below Fe Q nxt) (st : ∀ t, Steps p.tables e below nxt t → Steps p.tables e below cur t) : EndG p e below Fe Q cur := by
  obtain ⟨s₂, o, h1, r⟩ := k; exact ⟨s₂, o, st _ h1, r⟩
theorem EndG.tr {cur nxt : State} (k : EndG p e below Fe Q nxt) (st : Steps p.tables e below cur nxt) : EndG p e below Fe Q cur := by
  obtain ⟨s₂, o, h1, r⟩ := k; exact ⟨s₂, o, st.trans h1, r⟩
theorem End.cast {g g' : JFrame} (k : EndG p e below Fe Q (T.setTop g')) (h : g = g') : EndG p e below Fe Q (T.setTop g) := h ▸ k
theorem Con.of {Z : State} {y : MethodName} {bytes : ByteArray} {maxL : Nat} {ret : Option FieldType} {ws : List Cond} {rm : Room} {as : Array Value} {h : Heap} (hpl : plainFor y = true)
    (body : ∀ (p : Program) (e : Env) (s : State) (m : MethodId) (below : List Frame) (meth : Method) (c : Code) (s₁ : State), Stand p l e rm s m as below meth c s₁ [] 0 0 → p.tables.exec = Jvm.exec → c.code = bytes → c.maxLocals = maxL → s.vm.findClass y.cls = some m.cls → meth.name = y.name → meth.sig.returnType = ret → meth.locks = false → Z.Warmed39 s.vm → s₁.heap = h → End p e below s Q rm.cells rm.slots (s₁.setTop (entryFrame m as maxL))) :
    Con l Z y bytes maxL ret ws rm as h Q := by
  refine MetFree.of_bodySF hpl hisR ?_
  intro p e s m args below meth c s₁ Bd hml hP hK
  obtain ⟨rfl, hZ, hh⟩ := hP
  obtain ⟨s₂, o, h1, h2, h3, v, L, h4, h5, h6⟩ := body p e s m below meth c s₁ (Stand.of_body Bd) Bd.exec Bd.bytes hml (findClass_of_methodNamed Bd.named) (name_of_methodNamed Bd.named Bd.method).1 Bd.returns Bd.notSynchronized hZ (by rw [← hh, Bd.state]; rfl)
  exact ⟨s₂, o, h1, h2, h3, v, L, h4, h5, h6⟩
theorem Con.mono {Z : State} {y : MethodName} {bytes : ByteArray} {maxL : Nat} {ret : Option FieldType} {ws : List Cond} {rm : Room} {as : Array Value} {h : Heap} {Q' : Option Value → Heap → List Loc → Prop} (k : Con l Z y bytes maxL ret ws rm as h Q) (hQ : ∀ v hh L, Q v hh L → Q' v hh L) : Con l Z y bytes maxL ret ws rm as h Q' := by
  intro p e ha hc hk s m args below hf happ hP hK
  obtain ⟨n, o, h1, h2, h3, v, L, h4, h5, h6⟩ := k p e ha hc hk s m args below hf happ hP hK
  exact ⟨n, o, h1, h2, h3, v, L, h4, hQ _ _ _ h5, h6⟩
theorem k_iloadN (X : Stand p l e R s m args below meth c T locs cells slots) (hx : p.tables.exec = Jvm.exec) {j : Fin 4} {v : Int32} (hq : pc + 1 = q) (hd : decode c.code pc = .ok (.iload_n j, 1)) (hl : Ls[j.val]? = some (.val (.int v))) (k : EndG p e below Fe Q (T.setTop (mkF m q Ls (.int v :: rest)))) : EndG p e below Fe Q (T.setTop (mkF m pc Ls (rest))) := by
  subst hq; exact k.st fun t w => XS.iloadN X.here hx rfl hd hl w
theorem k_iload (X : Stand p l e R s m args below meth c T locs cells slots) (hx : p.tables.exec = Jvm.exec) {j : Nat} {v : Int32} (hq : pc + 2 = q) (hd : decode c.code pc = .ok (.iload j, 2)) (hl : Ls[j]? = some (.val (.int v))) (k : EndG p e below Fe Q (T.setTop (mkF m q Ls (.int v :: rest)))) : EndG p e below Fe Q (T.setTop (mkF m pc Ls (rest))) := by
  subst hq; exact k.st fun t w => XS.iload X.here hx rfl hd hl w
theorem k_istore (X : Stand p l e R s m args below meth c T locs cells slots) (hx : p.tables.exec = Jvm.exec) {j : Nat} {v : Int32} {L' : Array Slot} (hq : pc + 2 = q) (hd : decode c.code pc = .ok (.istore j, 2)) (hl : storeLocals Ls j (.int v) = some L') (k : EndG p e below Fe Q (T.setTop (mkF m q L' (rest)))) : EndG p e below Fe Q (T.setTop (mkF m pc Ls (.int v :: rest))) := by
  subst hq; exact k.st fun t w => XS.istore X.here hx rfl hd rfl hl w
theorem k_aloadN (X : Stand p l e R s m args below meth c T locs cells slots) (hx : p.tables.exec = Jvm.exec) {j : Fin 4} {v : Value} (hq : pc + 1 = q) (hd : decode c.code pc = .ok (.aload_n j, 1)) (hl : Ls[j.val]? = some (.val v)) (hv : v.isRef = true) (k : EndG p e below Fe Q (T.setTop (mkF m q Ls (v :: rest)))) : EndG p e below Fe Q (T.setTop (mkF m pc Ls (rest))) := by
  subst hq; exact k.st fun t w => XS.aloadN X.here hx rfl hd hl hv w
theorem k_aload (X : Stand p l e R s m args below meth c T locs cells slots) (hx : p.tables.exec = Jvm.exec) {j : Nat} {v : Value} (hq : pc + 2 = q) (hd : decode c.code pc = .ok (.aload j, 2)) (hl : Ls[j]? = some (.val v)) (hv : v.isRef = true) (k : EndG p e below Fe Q (T.setTop (mkF m q Ls (v :: rest)))) : EndG p e below Fe Q (T.setTop (mkF m pc Ls (rest))) := by
  subst hq; exact k.st fun t w => XS.aload X.here hx rfl hd hl hv w
theorem k_astoreN (X : Stand p l e R s m args below meth c T locs cells slots) (hx : p.tables.exec = Jvm.exec) {j : Fin 4} {v : Value} {L' : Array Slot} (hq : pc + 1 = q) (hd : decode c.code pc = .ok (.astore_n j, 1)) (hv : v.isRef = true) (hl : storeLocals Ls j.val v = some L') (k : EndG p e below Fe Q (T.setTop (mkF m q L' (rest)))) : EndG p e below Fe Q (T.setTop (mkF m pc Ls (v :: rest))) := by
  subst hq; exact k.st fun t w => XS.astoreN X.here hx rfl hd rfl hv hl w
theorem k_astore (X : Stand p l e R s m args below meth c T locs cells slots) (hx : p.tables.exec = Jvm.exec) {j : Nat} {v : Value} {L' : Array Slot} (hq : pc + 2 = q) (hd : decode c.code pc = .ok (.astore j, 2)) (hv : v.isRef = true) (hl : storeLocals Ls j v = some L') (k : EndG p e below Fe Q (T.setTop (mkF m q L' (rest)))) : EndG p e below Fe Q (T.setTop (mkF m pc Ls (v :: rest))) := by
  subst hq; exact k.st fun t w => XS.astore X.here hx rfl hd rfl hv hl w
theorem k_iconst (X : Stand p l e R s m args below meth c T locs cells slots) (hx : p.tables.exec = Jvm.exec) {i : Int} {v : Int32} (hv : Int32.ofInt i = v) (hq : pc + 1 = q) (hd : decode c.code pc = .ok (.iconst i, 1)) (k : EndG p e below Fe Q (T.setTop (mkF m q Ls (.int v :: rest)))) : EndG p e below Fe Q (T.setTop (mkF m pc Ls (rest))) := by
  subst hq hv; exact k.st fun t w => XS.iconst X.here hx rfl hd w
theorem k_bipush (X : Stand p l e R s m args below meth c T locs cells slots) (hx : p.tables.exec = Jvm.exec) {i : Int} {v : Int32} (hv : (Int8.ofInt i).toInt32 = v) (hq : pc + 2 = q) (hd : decode c.code pc = .ok (.bipush i, 2)) (k : EndG p e below Fe Q (T.setTop (mkF m q Ls (.int v :: rest)))) : EndG p e below Fe Q (T.setTop (mkF m pc Ls (rest))) := by
  subst hq hv; exact k.st fun t w => XS.bipush X.here hx rfl hd w
theorem k_sipush (X : Stand p l e R s m args below meth c T locs cells slots) (hx : p.tables.exec = Jvm.exec) {i : Int} {v : Int32} (hv : (Int16.ofInt i).toInt32 = v) (hq : pc + 3 = q) (hd : decode c.code pc = .ok (.sipush i, 3)) (k : EndG p e below Fe Q (T.setTop (mkF m q Ls (.int v :: rest)))) : EndG p e below Fe Q (T.setTop (mkF m pc Ls (rest))) := by
  subst hq hv; exact k.st fun t w => XS.sipush X.here hx rfl hd w
theorem k_aconst_null (X : Stand p l e R s m args below meth c T locs cells slots) (hx : p.tables.exec = Jvm.exec) (hq : pc + 1 = q) (hd : decode c.code pc = .ok (.aconst_null, 1)) (k : EndG p e below Fe Q (T.setTop (mkF m q Ls (.null :: rest)))) : EndG p e below Fe Q (T.setTop (mkF m pc Ls (rest))) := by
  subst hq; exact k.st fun t w => XS.aconstNull X.here hx rfl hd w
theorem k_isub (X : Stand p l e R s m args below meth c T locs cells slots) (hx : p.tables.exec = Jvm.exec) {x y : Int32} (hq : pc + 1 = q) (hd : decode c.code pc = .ok (.isub, 1)) (k : EndG p e below Fe Q (T.setTop (mkF m q Ls (.int (x - y) :: rest)))) : EndG p e below Fe Q (T.setTop (mkF m pc Ls (.int y :: .int x :: rest))) := by
  subst hq; exact k.st fun t w => XS.isub X.here hx rfl hd rfl w
theorem k_iand (X : Stand p l e R s m args below meth c T locs cells slots) (hx : p.tables.exec = Jvm.exec) {x y : Int32} (hq : pc + 1 = q) (hd : decode c.code pc = .ok (.iand, 1)) (k : EndG p e below Fe Q (T.setTop (mkF m q Ls (.int (x &&& y) :: rest)))) : EndG p e below Fe Q (T.setTop (mkF m pc Ls (.int y :: .int x :: rest))) := by
  subst hq; exact k.st fun t w => XS.iand X.here hx rfl hd rfl w
theorem k_iushr (X : Stand p l e R s m args below meth c T locs cells slots) (hx : p.tables.exec = Jvm.exec) {x y : Int32} (hq : pc + 1 = q) (hd : decode c.code pc = .ok (.iushr, 1)) (k : EndG p e below Fe Q (T.setTop (mkF m q Ls (.int ((x.toUInt32 >>> (y &&& 31).toUInt32).toInt32) :: rest)))) : EndG p e below Fe Q (T.setTop (mkF m pc Ls (.int y :: .int x :: rest))) := by
  subst hq; exact k.st fun t w => XS.iushr X.here hx rfl hd rfl w
theorem k_i2b (X : Stand p l e R s m args below meth c T locs cells slots) (hx : p.tables.exec = Jvm.exec) {x : Int32} (hq : pc + 1 = q) (hd : decode c.code pc = .ok (.i2b, 1)) (k : EndG p e below Fe Q (T.setTop (mkF m q Ls (.int x.toInt8.toInt32 :: rest)))) : EndG p e below Fe Q (T.setTop (mkF m pc Ls (.int x :: rest))) := by
  subst hq; exact k.st fun t w => XS.i2b X.here hx rfl hd rfl w
theorem k_i2c (X : Stand p l e R s m args below meth c T locs cells slots) (hx : p.tables.exec = Jvm.exec) {x : Int32} (hq : pc + 1 = q) (hd : decode c.code pc = .ok (.i2c, 1)) (k : EndG p e below Fe Q (T.setTop (mkF m q Ls (.int x.toUInt32.toUInt16.toUInt32.toInt32 :: rest)))) : EndG p e below Fe Q (T.setTop (mkF m pc Ls (.int x :: rest))) := by
  subst hq; exact k.st fun t w => XS.i2c X.here hx rfl hd rfl w
theorem k_dup (X : Stand p l e R s m args below meth c T locs cells slots) (hx : p.tables.exec = Jvm.exec) {x : Value} (hq : pc + 1 = q) (hd : decode c.code pc = .ok (.dup, 1)) (hc : x.category = 1) (k : EndG p e below Fe Q (T.setTop (mkF m q Ls (x :: x :: rest)))) : EndG p e below Fe Q (T.setTop (mkF m pc Ls (x :: rest))) := by
  subst hq; exact k.st fun t w => XS.dup X.here hx rfl hd rfl hc w
theorem k_iinc (X : Stand p l e R s m args below meth c T locs cells slots) (hx : p.tables.exec = Jvm.exec) {j : Nat} {i : Int} {x : Int32} {L' : Array Slot} (hq : pc + 3 = q) (hd : decode c.code pc = .ok (.iinc j i, 3)) (hl : Ls[j]? = some (.val (.int x))) (hl' : storeLocals Ls j (.int (x + Int32.ofInt i)) = some L') (k : EndG p e below Fe Q (T.setTop (mkF m q L' (rest)))) : EndG p e below Fe Q (T.setTop (mkF m pc Ls (rest))) := by
  subst hq; exact k.st fun t w => XS.iinc X.here hx rfl hd hl hl' w
theorem k_goto (X : Stand p l e R s m args below meth c T locs cells slots) (hx : p.tables.exec = Jvm.exec) {o : Int} (ho : 0 ≤ (pc : Int) + o) (hp : ((pc : Int) + o).toNat = q) (hd : decode c.code pc = .ok (.goto o, 3)) (k : EndG p e below Fe Q (T.setTop (mkF m q Ls (rest)))) : EndG p e below Fe Q (T.setTop (mkF m pc Ls (rest))) :=
  k.st fun t w => XS.goto X.here hx rfl (pc0 := pc) (pc' := q) rfl hd ho hp w
theorem k_icmp_eq (X : Stand p l e R s m args below meth c T locs cells slots) (hx : p.tables.exec = Jvm.exec) {x y : Int32} {o : Int} {q1 : Nat} (ho : 0 ≤ (pc : Int) + o) (hp : ((pc : Int) + o).toNat = q1) (hq : pc + 3 = q) (hd : decode c.code pc = .ok (.if_icmp .eq o, 3)) (kt : x = y → EndG p e below Fe Q (T.setTop (mkF m q1 Ls (rest)))) (kf : ¬ x = y → EndG p e below Fe Q (T.setTop (mkF m q Ls (rest)))) : EndG p e below Fe Q (T.setTop (mkF m pc Ls (.int y :: .int x :: rest))) := by
  by_cases h : x = y
  · exact (kt h).st fun t w => XS.icmpYes X.here hx rfl (pc0 := pc) (pc' := q1) rfl hd rfl (XT.ii_eq_t h) ho hp w
  · subst hq; exact (kf h).st fun t w => XS.icmpNo X.here hx rfl hd rfl (XT.ii_eq_f h) w
theorem k_if_eq (X : Stand p l e R s m args below meth c T locs cells slots) (hx : p.tables.exec = Jvm.exec) {x : Int32} {o : Int} {q1 : Nat} (ho : 0 ≤ (pc : Int) + o) (hp : ((pc : Int) + o).toNat = q1) (hq : pc + 3 = q) (hd : decode c.code pc = .ok (.ifCond .eq o, 3)) (kt : x = 0 → EndG p e below Fe Q (T.setTop (mkF m q1 Ls (rest)))) (kf : ¬ x = 0 → EndG p e below Fe Q (T.setTop (mkF m q Ls (rest)))) : EndG p e below Fe Q (T.setTop (mkF m pc Ls (.int x :: rest))) := by
  by_cases h : x = 0
  · exact (kt h).st fun t w => XS.ifYes X.here hx rfl (pc0 := pc) (pc' := q1) rfl hd rfl (XT.i0_eq_t h) ho hp w
  · subst hq; exact (kf h).st fun t w => XS.ifNo X.here hx rfl hd rfl (XT.i0_eq_f h) w
theorem k_icmp_ne (X : Stand p l e R s m args below meth c T locs cells slots) (hx : p.tables.exec = Jvm.exec) {x y : Int32} {o : Int} {q1 : Nat} (ho : 0 ≤ (pc : Int) + o) (hp : ((pc : Int) + o).toNat = q1) (hq : pc + 3 = q) (hd : decode c.code pc = .ok (.if_icmp .ne o, 3)) (kt : ¬ x = y → EndG p e below Fe Q (T.setTop (mkF m q1 Ls (rest)))) (kf : x = y → EndG p e below Fe Q (T.setTop (mkF m q Ls (rest)))) : EndG p e below Fe Q (T.setTop (mkF m pc Ls (.int y :: .int x :: rest))) := by
  by_cases h : x = y
  · subst hq; exact (kf h).st fun t w => XS.icmpNo X.here hx rfl hd rfl (XT.ii_ne_f h) w
  · exact (kt h).st fun t w => XS.icmpYes X.here hx rfl (pc0 := pc) (pc' := q1) rfl hd rfl (XT.ii_ne_t h) ho hp w
theorem k_if_ne (X : Stand p l e R s m args below meth c T locs cells slots) (hx : p.tables.exec = Jvm.exec) {x : Int32} {o : Int} {q1 : Nat} (ho : 0 ≤ (pc : Int) + o) (hp : ((pc : Int) + o).toNat = q1) (hq : pc + 3 = q) (hd : decode c.code pc = .ok (.ifCond .ne o, 3)) (kt : ¬ x = 0 → EndG p e below Fe Q (T.setTop (mkF m q1 Ls (rest)))) (kf : x = 0 → EndG p e below Fe Q (T.setTop (mkF m q Ls (rest)))) : EndG p e below Fe Q (T.setTop (mkF m pc Ls (.int x :: rest))) := by
  by_cases h : x = 0
  · subst hq; exact (kf h).st fun t w => XS.ifNo X.here hx rfl hd rfl (XT.i0_ne_f h) w
  · exact (kt h).st fun t w => XS.ifYes X.here hx rfl (pc0 := pc) (pc' := q1) rfl hd rfl (XT.i0_ne_t h) ho hp w
theorem k_icmp_ge (X : Stand p l e R s m args below meth c T locs cells slots) (hx : p.tables.exec = Jvm.exec) {x y : Int32} {o : Int} {q1 : Nat} (ho : 0 ≤ (pc : Int) + o) (hp : ((pc : Int) + o).toNat = q1) (hq : pc + 3 = q) (hd : decode c.code pc = .ok (.if_icmp .ge o, 3)) (kt : ¬ x < y → EndG p e below Fe Q (T.setTop (mkF m q1 Ls (rest)))) (kf : x < y → EndG p e below Fe Q (T.setTop (mkF m q Ls (rest)))) : EndG p e below Fe Q (T.setTop (mkF m pc Ls (.int y :: .int x :: rest))) := by
  by_cases h : x < y
  · subst hq; exact (kf h).st fun t w => XS.icmpNo X.here hx rfl hd rfl (XT.ii_ge_f h) w
  · exact (kt h).st fun t w => XS.icmpYes X.here hx rfl (pc0 := pc) (pc' := q1) rfl hd rfl (XT.ii_ge_t h) ho hp w
theorem k_icmp_le (X : Stand p l e R s m args below meth c T locs cells slots) (hx : p.tables.exec = Jvm.exec) {x y : Int32} {o : Int} {q1 : Nat} (ho : 0 ≤ (pc : Int) + o) (hp : ((pc : Int) + o).toNat = q1) (hq : pc + 3 = q) (hd : decode c.code pc = .ok (.if_icmp .le o, 3)) (kt : ¬ y < x → EndG p e below Fe Q (T.setTop (mkF m q1 Ls (rest)))) (kf : y < x → EndG p e below Fe Q (T.setTop (mkF m q Ls (rest)))) : EndG p e below Fe Q (T.setTop (mkF m pc Ls (.int y :: .int x :: rest))) := by
  by_cases h : y < x
  · subst hq; exact (kf h).st fun t w => XS.icmpNo X.here hx rfl hd rfl (XT.ii_le_f h) w
  · exact (kt h).st fun t w => XS.icmpYes X.here hx rfl (pc0 := pc) (pc' := q1) rfl hd rfl (XT.ii_le_t h) ho hp w
theorem k_ifnull_n (X : Stand p l e R s m args below meth c T locs cells slots) (hx : p.tables.exec = Jvm.exec) {o : Int} {a : Addr} (hq : pc + 3 = q) (hd : decode c.code pc = .ok (.ifnull o, 3)) (k : EndG p e below Fe Q (T.setTop (mkF m q Ls (rest)))) : EndG p e below Fe Q (T.setTop (mkF m pc Ls (.ref a :: rest))) := by
  subst hq; exact k.st fun t w => XS.ifnullNo X.here hx rfl hd rfl w
theorem k_ifnonnull_y (X : Stand p l e R s m args below meth c T locs cells slots) (hx : p.tables.exec = Jvm.exec) {o : Int} {a : Addr} (ho : 0 ≤ (pc : Int) + o) (hp : ((pc : Int) + o).toNat = q) (hd : decode c.code pc = .ok (.ifnonnull o, 3)) (k : EndG p e below Fe Q (T.setTop (mkF m q Ls (rest)))) : EndG p e below Fe Q (T.setTop (mkF m pc Ls (.ref a :: rest))) :=
  k.st fun t w => XS.ifnonnullYes X.here hx rfl (pc0 := pc) (pc' := q) rfl hd rfl ho hp w
theorem k_ifnonnull_n (X : Stand p l e R s m args below meth c T locs cells slots) (hx : p.tables.exec = Jvm.exec) {o : Int} (hq : pc + 3 = q) (hd : decode c.code pc = .ok (.ifnonnull o, 3)) (k : EndG p e below Fe Q (T.setTop (mkF m q Ls (rest)))) : EndG p e below Fe Q (T.setTop (mkF m pc Ls (.null :: rest))) := by
  subst hq; exact k.st fun t w => XS.ifnonnullNo X.here hx rfl hd rfl w
theorem k_acmp_n (X : Stand p l e R s m args below meth c T locs cells slots) (hx : p.tables.exec = Jvm.exec) {cd : ACond} {o : Int} {x y : Value} (hq : pc + 3 = q) (hd : decode c.code pc = .ok (.if_acmp cd o, 3)) (hx' : x.isRef = true) (hy' : y.isRef = true) (hc : XT.acmp cd x y = false) (k : EndG p e below Fe Q (T.setTop (mkF m q Ls (rest)))) : EndG p e below Fe Q (T.setTop (mkF m pc Ls (y :: x :: rest))) := by
  subst hq; exact k.st fun t w => XT.acmpNo X.here hx rfl hd rfl hx' hy' hc w
theorem k_retN (X : Stand p l e R s m args below meth c T locs cells slots) (hx : p.tables.exec = Jvm.exec) {z : Int32} {t : FieldType} (hlk : meth.locks = false) (hcl : cells ≤ cl) (hsl : slots ≤ sl) (hret : meth.sig.returnType = some t) (ht : t = .boolean ∨ t = .byte ∨ t = .char ∨ t = .short) (hd : decode c.code pc = .ok (.ireturn, 1)) (hQ : Q (some (.int (nar t z))) T.heap locs) : End p e below s Q cl sl (T.setTop (mkF m pc Ls (.int z :: rest))) := by
  obtain ⟨fs, hr, hrun, hended, hW, hsame⟩ := X.leave (v := (some (.int (nar t z)))) (fun h => by rw [hret] at h; cases h) hlk
  refine ⟨_, _, ?_, hrun, hended, _, _, rfl, hQ, ⟨_, rfl⟩, hW, hsame.mono hcl hsl⟩
  exact retN X hx hret ht hd hr
theorem k_retI (X : Stand p l e R s m args below meth c T locs cells slots) (hx : p.tables.exec = Jvm.exec) {z : Int32} (hlk : meth.locks = false) (hcl : cells ≤ cl) (hsl : slots ≤ sl) (hret : meth.sig.returnType = some .int) (hd : decode c.code pc = .ok (.ireturn, 1)) (hQ : Q (some (.int z)) T.heap locs) : End p e below s Q cl sl (T.setTop (mkF m pc Ls (.int z :: rest))) := by
  obtain ⟨fs, hr, hrun, hended, hW, hsame⟩ := X.leave (v := (some (.int z))) (fun h => by rw [hret] at h; cases h) hlk
  refine ⟨_, _, ?_, hrun, hended, _, _, rfl, hQ, ⟨_, rfl⟩, hW, hsame.mono hcl hsl⟩
  exact retOut X hx hret rfl (Or.inl ⟨rfl, Or.inl rfl, _, rfl⟩) hd hr
theorem k_retA (X : Stand p l e R s m args below meth c T locs cells slots) (hx : p.tables.exec = Jvm.exec) {z : Value} {t : FieldType} (hlk : meth.locks = false) (hcl : cells ≤ cl) (hsl : slots ≤ sl) (hret : meth.sig.returnType = some t) (ht : t.isReference = true) (hz : z.isRef = true) (hd : decode c.code pc = .ok (.areturn, 1)) (hQ : Q (some z) T.heap locs) : End p e below s Q cl sl (T.setTop (mkF m pc Ls (z :: rest))) := by
  obtain ⟨fs, hr, hrun, hended, hW, hsame⟩ := X.leave (v := (some z)) (fun h => by rw [hret] at h; cases h) hlk
  refine ⟨_, _, ?_, hrun, hended, _, _, rfl, hQ, ⟨_, rfl⟩, hW, hsame.mono hcl hsl⟩
  exact retOut X hx hret (by cases t <;> first | rfl | (simp [FieldType.isReference] at ht)) (Or.inr (Or.inr (Or.inr (Or.inr ⟨rfl, ht, hz⟩)))) hd hr
theorem k_retV (X : Stand p l e R s m args below meth c T locs cells slots) (hx : p.tables.exec = Jvm.exec)  (hlk : meth.locks = false) (hcl : cells ≤ cl) (hsl : slots ≤ sl) (hret : meth.sig.returnType = none) (hd : decode c.code pc = .ok (.return_, 1)) (hQ : Q none T.heap locs) : End p e below s Q cl sl (T.setTop (mkF m pc Ls ([]))) := by
  obtain ⟨fs, hr, hrun, hended, hW, hsame⟩ := X.leave (v := none) (fun _ => rfl) hlk
  refine ⟨_, _, ?_, hrun, hended, _, _, rfl, hQ, ⟨_, rfl⟩, hW, hsame.mono hcl hsl⟩
  exact X.returnOut hx hret hd hr
variable {Z : State} {a0 : Array Value} {h : Heap}
theorem k_getF (X : Stand p l e R s m args below meth c T locs cells slots) (hx : p.tables.exec = Jvm.exec) (hZ : Z.Warmed39 s.vm) {own R0 O n d host : String} {index : Nat} (hown : s.vm.findClass own = some m.cls) (w0 : (Cond.fieldLink own index R0 n d).before a0 Z = true ∨ (Cond.fieldLinkNest own index R0 n d host).before a0 Z = true) (via : Via Z R0 O n d) (eT : T.heap = h) {a : Addr} {v : Value} (hq : pc + 3 = q) (hd : decode c.code pc = .ok (.getfield index, 3)) (F : Fld Z h a O n d v) (k : ∀ T', Stand p l e R s m args below meth c T' locs cells slots → T'.heap = h → EndG p e below Fe Q (T'.setTop (mkF m q Ls (v :: rest)))) : EndG p e below Fe Q (T.setTop (mkF m pc Ls (.ref a :: rest))) := by
  subst hq; obtain ⟨T', X', e', st⟩ := getF X hx hZ hown w0 via eT F (g := (mkF m pc Ls (.ref a :: rest))) rfl rfl hd
  exact (k T' X' e').st st
theorem k_getS (X : Stand p l e R s m args below meth c T locs cells slots) (hx : p.tables.exec = Jvm.exec) (hZ : Z.Warmed39 s.vm) {own R0 O n d host : String} {index : Nat} (hown : s.vm.findClass own = some m.cls) (w0 : (Cond.fieldLink own index R0 n d).before a0 Z = true ∨ (Cond.fieldLinkNest own index R0 n d host).before a0 Z = true) (via : Via Z R0 O n d) (eT : T.heap = h) {v : Value} (hq : pc + 3 = q) (hd : decode c.code pc = .ok (.getstatic index, 3)) (F : Sta Z h O n d v) (k : ∀ T', Stand p l e R s m args below meth c T' locs cells slots → T'.heap = h → EndG p e below Fe Q (T'.setTop (mkF m q Ls (v :: rest)))) : EndG p e below Fe Q (T.setTop (mkF m pc Ls (rest))) := by
  subst hq; obtain ⟨T', X', e', st⟩ := getS2 X hx hZ hown w0 via eT F (g := (mkF m pc Ls (rest))) rfl hd
  exact (k T' X' e').st st
theorem k_putF (X : Stand p l e R s m args below meth c T locs cells slots) (hx : p.tables.exec = Jvm.exec) (hZ : Z.Warmed39 s.vm) {own R0 O n d host C : String} {index kk : Nat} {ty : FieldType} (hown : s.vm.findClass own = some m.cls) (w0 : (Cond.fieldLink own index R0 n d).before a0 Z = true ∨ (Cond.fieldLinkNest own index R0 n d host).before a0 Z = true) (via : Via Z R0 O n d) (eT : T.heap = h) {a : Addr} {v old : Value} (L0 : (Cond.lays C O n d).before a0 Z = true ∨ ((Cond.laysFinal C O n d).before a0 Z = true ∧ own = O ∧ meth.name = "<init>")) (wi : (Cond.instantiable C kk).before a0 Z = true) (hty : parseFieldDescriptor d = some ty) (hn : narrow ty v = v) (hf : fits ty v = true) (hq : pc + 3 = q) (hd : decode c.code pc = .ok (.putfield index, 3)) (F : Fld Z h a O n d old) (E : Exa Z h a C) (k : ∀ T' h', Stand p l e R s m args below meth c T' (locs ++ [⟨a, Jvm.RoadKit.slotOf Z O n d⟩]) cells slots → T'.heap = h' → Wr h h' a (Jvm.RoadKit.slotOf Z O n d) v → EndG p e below Fe Q (T'.setTop (mkF m q Ls (rest)))) : EndG p e below Fe Q (T.setTop (mkF m pc Ls (v :: .ref a :: rest))) := by
  subst hq; obtain ⟨T', h', X', e', W', st⟩ := putF X hx hZ hown w0 via eT F E L0 wi hty hn hf (g := (mkF m pc Ls (v :: .ref a :: rest))) rfl rfl hd
  exact (k T' h' X' e' W').st st
theorem k_putFN (X : Stand p l e R s m args below meth c T locs cells slots) (hx : p.tables.exec = Jvm.exec) (hZ : Z.Warmed39 s.vm) {own R0 O n d C : String} {index kk : Nat} {ty : FieldType} (hown : s.vm.findClass own = some m.cls) (w0 : (Cond.fieldLink own index R0 n d).before a0 Z = true) (via : Via Z R0 O n d) (eT : T.heap = h) {a : Addr} {v v' old : Value} (L0 : (Cond.lays C O n d).before a0 Z = true ∨ ((Cond.laysFinal C O n d).before a0 Z = true ∧ own = O ∧ meth.name = "<init>")) (wi : (Cond.instantiable C kk).before a0 Z = true) (hty : parseFieldDescriptor d = some ty) (hn : narrow ty v = v') (hf : fits ty v' = true) (hq : pc + 3 = q) (hd : decode c.code pc = .ok (.putfield index, 3)) (F : Fld Z h a O n d old) (E : Exa Z h a C) (k : ∀ T' h', Stand p l e R s m args below meth c T' (locs ++ [⟨a, Jvm.RoadKit.slotOf Z O n d⟩]) cells slots → T'.heap = h' → Wr h h' a (Jvm.RoadKit.slotOf Z O n d) v' → EndG p e below Fe Q (T'.setTop (mkF m q Ls (rest)))) : EndG p e below Fe Q (T.setTop (mkF m pc Ls (v :: .ref a :: rest))) := by
  subst hq; obtain ⟨T', h', X', e', W', st⟩ := putFN X hx hZ hown w0 via eT F E L0 wi hty hn hf (g := (mkF m pc Ls (v :: .ref a :: rest))) rfl rfl hd
  exact (k T' h' X' e' W').st st
theorem k_new (X : Stand p l e R s m args below meth c T locs cells slots) (hx : p.tables.exec = Jvm.exec) (hZ : Z.Warmed39 s.vm) {own C : String} {index n : Nat} (hown : s.vm.findClass own = some m.cls) (w0 : (Cond.classLink own index C).before a0 Z = true) (wi : (Cond.instantiable C n).before a0 Z = true) (wz : (Cond.initialized C).before a0 Z = true) (eT : T.heap = h) (hq : pc + 3 = q) (hd : decode c.code pc = .ok (.new index, 3)) (hc : cells + 1 ≤ R.cells) (hl : slots + n ≤ R.slots) (k : ∀ T' h' a, Stand p l e R s m args below meth c T' locs (cells + 1) (slots + n) → T'.heap = h' → a = h.size → Ext h h' → Exa Z h' a C → (∀ {O nm d : String} {ty : FieldType}, Laid Z a0 C O nm d → parseFieldDescriptor d = some ty → Fld Z h' a O nm d (defaultValue ty)) → EndG p e below Fe Q (T'.setTop (mkF m q Ls (.ref a :: rest)))) : EndG p e below Fe Q (T.setTop (mkF m pc Ls (rest))) := by
  subst hq; obtain ⟨T', h', X', e', E', A', D', -, st⟩ := newO X hx hZ hown w0 wi wz eT (g := (mkF m pc Ls (rest))) rfl hd hc hl
  exact (k T' h' _ X' e' rfl E' A' D').st st
theorem k_newP (X : Stand p l e R s m args below meth c T locs cells slots) (hx : p.tables.exec = Jvm.exec) (hZ : Z.Warmed39 s.vm) {aty : ArrayType} (w0 : (Cond.arrayClass (newarray.typeOf aty)).before a0 Z = true) (eT : T.heap = h) {n : Int32} (hq : pc + 2 = q) (hd : decode c.code pc = .ok (.newarray aty, 2)) (hn : ¬ n < 0) {cap : Nat} (hcap : n.toNatClampNeg ≤ cap) (hb : cap * 8 ≤ 536870912) (hc : cells + 1 ≤ R.cells) (hl : slots + cap ≤ R.slots) (k : ∀ T' h' a cA, Stand p l e R s m args below meth c T' locs (cells + 1) (slots + cap) → T'.heap = h' → a = h.size → Ext h h' → Arr Z h' a (newA cA (newarray.typeOf aty) n) (newarray.typeOf aty) → EndG p e below Fe Q (T'.setTop (mkF m q Ls (.ref a :: rest)))) : EndG p e below Fe Q (T.setTop (mkF m pc Ls (.int n :: rest))) := by
  subst hq; obtain ⟨T', h', cA, X', e', E', A', st⟩ := newP X hx hZ w0 eT (g := (mkF m pc Ls (.int n :: rest))) rfl hd rfl hn hcap hb hc hl
  exact (k T' h' _ cA X' e' rfl E' A').st st
theorem k_initO (X : Stand p l e R s m args below meth c T locs cells slots) (hx : p.tables.exec = Jvm.exec) (hZ : Z.Warmed39 s.vm) {own : String} {index : Nat} (hown : s.vm.findClass own = some m.cls) (w1 : (Cond.methodLink own index Lib.objectInit).before a0 Z = true) (w2 : (Cond.instanceMethod Lib.objectInit).before a0 Z = true) (w3 : (Cond.code Lib.objectInit ⟨#[0xb1]⟩ 1 none).before a0 Z = true) (eT : T.heap = h) {a : Addr} (hq : pc + 3 = q) (hd : decode c.code pc = .ok (.invokespecial index, 3)) (hls : Ls.size = c.maxLocals) (hf : 1 ≤ R.frames) (W : Nat) (hW : 2 * 0 + (rest.map fun v => v.category).sum ≤ W) (hl : W + 12 ≤ R.locals) (k : ∀ T', Stand p l e R s m args below meth c T' locs cells slots → T'.heap = h → EndG p e below Fe Q (T'.setTop (mkF m q Ls (rest)))) : EndG p e below Fe Q (T.setTop (mkF m pc Ls (.ref a :: rest))) := by
  subst hq; obtain ⟨T', X', e', st⟩ := initO X hx hZ hown w1 w2 w3 eT (g := (mkF m pc Ls (.ref a :: rest))) rfl hls rfl hd hf (W := W) hW hl
  exact (k T' X' e').st st
end Steps
/-- the array at a has n places; the place t holds v t -/
def Ary (Z : State) (h : Heap) (a : Addr) (ty : FieldType) (n : Nat) (v : Nat → Value) : Prop := ∃ c : Cell, Arr Z h a c ty ∧ c.slots.size = n ∧ n < 2 ^ 31 ∧ ∀ t, t < n → c.slots[t]? = some (v t)
/-- g, but x at i -/
def upd {α : Type} (g : Nat → α) (i : Nat) (x : α) : Nat → α := fun t => if t = i then x else g t
theorem upd_same {α : Type} (g : Nat → α) (i : Nat) (x : α) : upd g i x i = x := if_pos rfl
theorem upd_other {α : Type} (g : Nat → α) {i t : Nat} (x : α) (q : t ≠ i) : upd g i x t = g t := if_neg q
section Arys
variable {Z : State} {h h' : Heap} {a b : Addr} {ty : FieldType} {n : Nat} {v w : Nat → Value} {sl : Nat} {x : Value} {ws : List Addr}
theorem Ary.lt (F : Ary Z h a ty n v) : a < h.size := by obtain ⟨c, A, -⟩ := F; exact A.lt
theorem Ary.ext (F : Ary Z h a ty n v) (E : Ext h h') : Ary Z h' a ty n v := by obtain ⟨c, A, r⟩ := F; exact ⟨c, A.ext E, r⟩
theorem Ary.other (F : Ary Z h b ty n v) (W : Wr h h' a sl x) (q : b ≠ a) : Ary Z h' b ty n v := by obtain ⟨c, A, r⟩ := F; exact ⟨c, A.other W q, r⟩
theorem Ary.keep (F : Ary Z h a ty n v) (K : Keep h h' ws) (q : a ∉ ws) : Ary Z h' a ty n v := by obtain ⟨c, A, r⟩ := F; exact ⟨c, ⟨K.2.1 a c A.1 q, A.2⟩, r⟩
theorem Ary.same (F : Ary Z h a ty n v) (W : Wr h h' a sl x) : Ary Z h' a ty n (fun t => if t = sl then x else v t) := by
  obtain ⟨c, A, S, B, H⟩ := F
  refine ⟨_, A.same W, by rw [sz_set, S], B, fun t ht => ?_⟩
  by_cases q : t = sl
  · subst q; simp [Cell.setSlot, S, ht]
  · simp only [if_neg q, Cell.setSlot]; rw [Array.getElem?_setIfInBounds_ne (Ne.symm q)]; exact H t ht
theorem Ary.congr (F : Ary Z h a ty n v) (q : ∀ t, t < n → v t = w t) : Ary Z h a ty n w := by obtain ⟨c, A, S, B, H⟩ := F; exact ⟨c, A, S, B, fun t ht => by rw [H t ht, q t ht]⟩
theorem Ary.new {k : ClassId} {z : Int32} (A : Arr Z h a (newA k ty z) ty) (q : ¬ z < 0) (hn : z.toNatClampNeg = n) : Ary Z h a ty n (fun _ => defaultValue ty) := by
  subst hn; exact ⟨_, A, sz_new _ _ _, (back32 q).2, fun t ht => by simp [newA, ht]⟩
theorem Keep.of_ext (E : Ext h h') : Keep h h' [] := (Keep.refl h []).ext E
def Cls (h : Heap) (a : Addr) (k : ClassId) : Prop := ∃ c : Cell, h[a]? = some c ∧ c.cls = k
theorem Cls.lt {k : ClassId} (F : Cls h a k) : a < h.size := by obtain ⟨c, h1, -⟩ := F; exact (Array.getElem?_eq_some_iff.mp h1).1
theorem Cls.keep {k : ClassId} (F : Cls h a k) (K : Keep h h' ws) : Cls h' a k := by obtain ⟨c, h1, h2⟩ := F; obtain ⟨c', q1, q2, -⟩ := K.2.2 _ _ h1; exact ⟨c', q1, q2.trans h2⟩
theorem Sto.ofA {k : ClassId} {C : String} {y : Addr} (A : Ary Z h a ty n v) (q : Cls h a k) (O : Ovr Z k C) (I : Ins Z h y C true) : Sto Z h a (.ref y) := by
  obtain ⟨c, A, r⟩ := A; obtain ⟨c', q1, q2⟩ := q; cases A.1.symm.trans q1; exact Sto.of A (q2 ▸ O) I
end Arys
theorem acmp_eq_t {a b : Addr} (h : a = b) : XT.acmp .eq (.ref a) (.ref b) = true := by subst h; simp [XT.acmp]
theorem acmp_eq_f {a b : Addr} (h : ¬ a = b) : XT.acmp .eq (.ref a) (.ref b) = false := by simp [XT.acmp, h]
theorem acmp_ne_t {a b : Addr} (h : ¬ a = b) : XT.acmp .ne (.ref a) (.ref b) = true := by simp [XT.acmp, h]
theorem acmp_ne_f {a b : Addr} (h : a = b) : XT.acmp .ne (.ref a) (.ref b) = false := by subst h; simp [XT.acmp]
/-- j names the place i -/
def Ix (j : Int32) (i : Nat) : Prop := ¬ j < 0 ∧ j.toNatClampNeg = i
theorem Ix.in {j : Int32} {i n : Nat} {c : Cell} (q : Ix j i) (S : c.slots.size = n) (hi : i < n) : ¬ (j < 0 ∨ c.slots.size ≤ j.toNatClampNeg) := fun o => o.elim q.1 fun o => by rw [S, q.2] at o; omega
theorem Ix.of {j : Int32} {i : Nat} (q : j.toInt = i) : Ix j i := by
  have h0 : ¬ j < 0 := by rw [Int32.lt_iff_toInt_lt, show (0 : Int32).toInt = 0 from by decide]; omega
  refine ⟨h0, ?_⟩
  have := nat_of h0; omega
theorem Ix.int {j : Int32} {i : Nat} (q : Ix j i) : j.toInt = i := by have := nat_of q.1; rw [q.2] at this; exact this
section Steps
variable {p : Program} {l : Launch} {e : Env} {R : Room} {s : State} {m : MethodId} {args : Array Value} {below : List Frame} {meth : Method} {c : Code} {T : State} {locs : List Loc} {cells slots : Nat} {Fe : Outcome → State → List Loc → Prop} {Q : Option Value → Heap → List Loc → Prop} {cl sl : Nat} {pc q : Nat} {Ls : Array Slot} {rest : List Value}
variable {Z : State} {a0 : Array Value} {h : Heap}
theorem k_arC (X : Stand p l e R s m args below meth c T locs cells slots) (hx : p.tables.exec = Jvm.exec) (hZ : Z.Warmed39 s.vm) (eT : T.heap = h) {a : Addr} {n : Nat} {v : Nat → Value} {j : Int32} {x : Value} (i : Nat) (hq : pc + 1 = q) (hd : decode c.code pc = .ok (.caload, 1)) (A : Ary Z h a .char n v) (hj : Ix j i) (hi : i < n) (hv : v i = x) (k : EndG p e below Fe Q (T.setTop (mkF m q Ls (x :: rest)))) : EndG p e below Fe Q (T.setTop (mkF m pc Ls (.int j :: .ref a :: rest))) := by
  obtain ⟨ce, A, S, B, H⟩ := A
  subst hq hv; exact k.st fun t w => X.caload hx (j := j) (v := v i) (by rw [eT]; exact A.1) (State.isArrayOf_alike hZ.alike A.2.1) A.2.2 (hj.in S hi) (by rw [hj.2]; exact H i hi) (g := (mkF m pc Ls (.int j :: .ref a :: rest))) rfl rfl hd t w
theorem k_asB (X : Stand p l e R s m args below meth c T locs cells slots) (hx : p.tables.exec = Jvm.exec) (hZ : Z.Warmed39 s.vm) (eT : T.heap = h) {a : Addr} {n : Nat} {v : Nat → Value} {j : Int32} {x : Int32} (i : Nat) (hq : pc + 1 = q) (hd : decode c.code pc = .ok (.bastore, 1)) (A : Ary Z h a .byte n v) (hj : Ix j i) (hi : i < n) (k : ∀ T' h', Stand p l e R s m args below meth c T' (locs ++ [⟨a, i⟩]) cells slots → T'.heap = h' → Wr h h' a i (.int (nar .byte x)) → Ary Z h' a .byte n (fun t => if t = i then (.int (nar .byte x)) else v t) → EndG p e below Fe Q (T'.setTop (mkF m q Ls (rest)))) : EndG p e below Fe Q (T.setTop (mkF m pc Ls (.int x :: .int j :: .ref a :: rest))) := by
  have A0 := A
  obtain ⟨ce, A, S, B, H⟩ := A
  subst hq; obtain ⟨T', h', X', e', W', st⟩ := stB X hx hZ eT A (hj.in S hi) (g := (mkF m pc Ls (.int x :: .int j :: .ref a :: rest))) rfl rfl hd
  rw [hj.2] at X' W'
  exact (k T' h' X' e' W' (A0.same W')).st st
theorem k_asC (X : Stand p l e R s m args below meth c T locs cells slots) (hx : p.tables.exec = Jvm.exec) (hZ : Z.Warmed39 s.vm) (eT : T.heap = h) {a : Addr} {n : Nat} {v : Nat → Value} {j : Int32} {x : Int32} (i : Nat) (hq : pc + 1 = q) (hd : decode c.code pc = .ok (.castore, 1)) (A : Ary Z h a .char n v) (hj : Ix j i) (hi : i < n) (k : ∀ T' h', Stand p l e R s m args below meth c T' (locs ++ [⟨a, i⟩]) cells slots → T'.heap = h' → Wr h h' a i (.int (nar .char x)) → Ary Z h' a .char n (fun t => if t = i then (.int (nar .char x)) else v t) → EndG p e below Fe Q (T'.setTop (mkF m q Ls (rest)))) : EndG p e below Fe Q (T.setTop (mkF m pc Ls (.int x :: .int j :: .ref a :: rest))) := by
  have A0 := A
  obtain ⟨ce, A, S, B, H⟩ := A
  subst hq; obtain ⟨T', h', X', e', W', st⟩ := stC X hx hZ eT A (hj.in S hi) (g := (mkF m pc Ls (.int x :: .int j :: .ref a :: rest))) rfl rfl hd
  rw [hj.2] at X' W'
  exact (k T' h' X' e' W' (A0.same W')).st st
theorem k_al (X : Stand p l e R s m args below meth c T locs cells slots) (hx : p.tables.exec = Jvm.exec) (hZ : Z.Warmed39 s.vm) (eT : T.heap = h) {a : Addr} {ty : FieldType} {n : Nat} {v : Nat → Value} {z : Int32} (hq : pc + 1 = q) (hd : decode c.code pc = .ok (.arraylength, 1)) (A : Ary Z h a ty n v) (hz : n.toInt32 = z) (k : EndG p e below Fe Q (T.setTop (mkF m q Ls (.int z :: rest)))) : EndG p e below Fe Q (T.setTop (mkF m pc Ls (.ref a :: rest))) := by
  obtain ⟨ce, A, S, B, H⟩ := A
  subst hq hz; exact k.st fun t w => X.arraylength hx (by rw [eT]; exact A.1) (State.isArrayOf_alike hZ.alike A.2.1) (g := (mkF m pc Ls (.ref a :: rest))) rfl rfl hd t (by rw [S]; exact w)
theorem k_callS (X : Stand p l e R s m args below meth c T locs cells slots) (hx : p.tables.exec = Jvm.exec) (hZ : Z.Warmed39 s.vm) {own : String} {index : Nat} {y : MethodName} {bytes : ByteArray} {maxL : Nat} {ret : Option FieldType} {rm : Room} {as : List Value} {Qc : Option Value → Heap → List Loc → Prop} (hown : s.vm.findClass own = some m.cls) (w1 : (Cond.methodLink own index y).before a0 Z = true) (w2 : (Cond.static y).before a0 Z = true) (w3 : (Cond.initialized y.cls).before a0 Z = true) (w4 : (Cond.code y bytes maxL ret).before a0 Z = true) (hy : y.cls ≠ "java/lang/invoke/MethodHandle" ∧ y.cls ≠ "java/lang/invoke/VarHandle") (W : Nat) (eT : T.heap = h) (hM : Con l Z y bytes maxL ret [] rm (as).toArray h Qc) (hf : rm.frames + 1 ≤ R.frames) (hl : W + (maxL + 11) + rm.locals ≤ R.locals) (hcl : cells + rm.cells ≤ R.cells) (hsl : slots + rm.slots ≤ R.slots) (hls : Ls.size = c.maxLocals) {ps : List FieldType} {rt : Option FieldType} (hpd : parseMethodDescriptor y.desc = some ⟨ps, rt⟩) (hlen : as.length = ps.length) (hW : 2 * 0 + (rest.map fun v => v.category).sum ≤ W) (hq : pc + 3 = q) (hd : decode c.code pc = .ok (.invokestatic index, 3)) (k : ∀ v T' L, Stand p l e R s m args below meth c T' (locs ++ L) (cells + rm.cells) (slots + rm.slots) → Qc v T'.heap L → EndG p e below Fe Q (T'.setTop (mkF m q Ls (v.toList ++ rest)))) : EndG p e below Fe Q (T.setTop (mkF m pc Ls (as.reverse ++ rest))) := by
  subst hq
  obtain ⟨v, _, ⟨T', L', k', n'⟩, -, X', ⟨Lc, hQ, l', y', z'⟩, st⟩ := Jvm.LawKit.callS X hx (y := y) hown (mvT hZ w1) (mvT hZ w2) (mvT hZ w3) (mvT hZ w4) hy (backOf (W := W) hM hZ w4 w3 hf hl) (g := (mkF m pc Ls (as.reverse ++ rest))) rfl hls (argsL := as) (rest := rest) (lenOf hpd hlen) rfl hW hd (fun _ _ => ⟨rfl, eT, hcl, hsl⟩)
  dsimp only [Pt.U, Pt.locs, Pt.cells, Pt.slots] at X' l' y' z' st hQ
  subst l' y' z'
  exact (k v T' Lc X' hQ).st st
theorem k_callI (X : Stand p l e R s m args below meth c T locs cells slots) (hx : p.tables.exec = Jvm.exec) (hZ : Z.Warmed39 s.vm) {own : String} {index : Nat} {y : MethodName} {bytes : ByteArray} {maxL : Nat} {rm : Room} {as : List Value} {Qc : Option Value → Heap → List Loc → Prop} {a : Addr} (hown : s.vm.findClass own = some m.cls) (hy1 : y.name = "<init>") (w1 : (Cond.methodLink own index y).before a0 Z = true) (w2 : (Cond.instanceMethod y).before a0 Z = true) (w3 : (Cond.initialized y.cls).before a0 Z = true) (w4 : (Cond.code y bytes maxL none).before a0 Z = true) (hy : y.cls ≠ "java/lang/invoke/MethodHandle" ∧ y.cls ≠ "java/lang/invoke/VarHandle") (W : Nat) (eT : T.heap = h) (hM : Con l Z y bytes maxL none [] rm (.ref a :: as).toArray h Qc) (hf : rm.frames + 1 ≤ R.frames) (hl : W + (maxL + 11) + rm.locals ≤ R.locals) (hcl : cells + rm.cells ≤ R.cells) (hsl : slots + rm.slots ≤ R.slots) (hls : Ls.size = c.maxLocals) {ps : List FieldType} {rt : Option FieldType} (hpd : parseMethodDescriptor y.desc = some ⟨ps, rt⟩) (hlen : as.length = ps.length) (hW : 2 * 0 + (rest.map fun v => v.category).sum ≤ W) (hq : pc + 3 = q) (hd : decode c.code pc = .ok (.invokespecial index, 3)) (k : ∀ v T' L, Stand p l e R s m args below meth c T' (locs ++ L) (cells + rm.cells) (slots + rm.slots) → Qc v T'.heap L → EndG p e below Fe Q (T'.setTop (mkF m q Ls (v.toList ++ rest)))) : EndG p e below Fe Q (T.setTop (mkF m pc Ls (as.reverse ++ .ref a :: rest))) := by
  subst hq
  obtain ⟨v, _, ⟨T', L', k', n'⟩, -, X', ⟨Lc, hQ, l', y', z'⟩, st⟩ := X.specialBack hx (y := y) hy1 hown (mvT hZ w1) (mvT hZ w2) (mvT hZ w4) hy (backOf (W := W) hM hZ w4 w3 hf hl) (g := (mkF m pc Ls (as.reverse ++ .ref a :: rest))) rfl hls (Steps.refl _) (a := a) (argsL := as) (rest := rest) (lenOf hpd hlen) rfl hW hd (fun _ _ => ⟨rfl, eT, hcl, hsl⟩)
  dsimp only [Pt.U, Pt.locs, Pt.cells, Pt.slots] at X' l' y' z' st hQ
  subst l' y' z'
  exact (k v T' Lc X' hQ).tr st
theorem k_callV (X : Stand p l e R s m args below meth c T locs cells slots) (hx : p.tables.exec = Jvm.exec) (hZ : Z.Warmed39 s.vm) {own : String} {index : Nat} {y : MethodName} {bytes : ByteArray} {maxL : Nat} {ret : Option FieldType} {rm : Room} {as : List Value} {Qc : Option Value → Heap → List Loc → Prop} {a : Addr} {C : String} {z : MethodName} (hown : s.vm.findClass own = some m.cls) (w1 : (Cond.methodLink own index y).before a0 Z = true) (w2 : (Cond.declares y).before a0 Z = true) (hnf : NotFace s y) (w3 : (Cond.selects C y z).before a0 Z = true) (w4 : (Cond.instanceMethod z).before a0 Z = true) (w5 : (Cond.code z bytes maxL ret).before a0 Z = true) (w6 : (Cond.initialized z.cls).before a0 Z = true) (hy : y.cls ≠ "java/lang/invoke/MethodHandle" ∧ y.cls ≠ "java/lang/invoke/VarHandle") (Ex : Exa Z h a C) (W : Nat) (eT : T.heap = h) (hM : Con l Z z bytes maxL ret [] rm (.ref a :: as).toArray h Qc) (hf : rm.frames + 1 ≤ R.frames) (hl : W + (maxL + 11) + rm.locals ≤ R.locals) (hcl : cells + rm.cells ≤ R.cells) (hsl : slots + rm.slots ≤ R.slots) (hls : Ls.size = c.maxLocals) {ps : List FieldType} {rt : Option FieldType} (hpd : parseMethodDescriptor y.desc = some ⟨ps, rt⟩) (hlen : as.length = ps.length) (hW : 2 * 0 + (rest.map fun v => v.category).sum ≤ W) (hq : pc + 3 = q) (hd : decode c.code pc = .ok (.invokevirtual index, 3)) (k : ∀ v T' L, Stand p l e R s m args below meth c T' (locs ++ L) (cells + rm.cells) (slots + rm.slots) → Qc v T'.heap L → EndG p e below Fe Q (T'.setTop (mkF m q Ls (v.toList ++ rest)))) : EndG p e below Fe Q (T.setTop (mkF m pc Ls (as.reverse ++ .ref a :: rest))) := by
  subst hq
  obtain ⟨cB, kB, q1, q2, q3⟩ := isOf hZ eT Ex
  obtain ⟨v, _, ⟨T', L', k', n'⟩, -, X', ⟨Lc, hQ, l', y', z'⟩, st⟩ := X.virtualBack hx (y := y) (z := z) hown (mvT hZ w1) (mvT hZ w2) hnf (mvT hZ w3) (mvT hZ w4) hy (backOf (W := W) hM hZ w5 w6 hf hl) q1 q3 (g := (mkF m pc Ls (as.reverse ++ .ref a :: rest))) rfl hls (Steps.refl _) (argsL := as) (rest := rest) (lenOf hpd hlen) rfl hW hd (fun _ _ => ⟨rfl, eT, hcl, hsl⟩)
  dsimp only [Pt.U, Pt.locs, Pt.cells, Pt.slots] at X' l' y' z' st hQ
  subst l' y' z'
  exact (k v T' Lc X' hQ).tr st
end Steps
end Jvm.OwnK
namespace Jvm.OwnK
open Sem ClassFile Op Lib Jvm.Stand Jvm.Free Jvm.LawKit Jvm.RoadKit
section Copy
variable {p : Program} {l : Launch} {e : Env} {R : Room} {s : State} {m : MethodId} {args : Array Value} {below : List Frame} {meth : Method} {c : Code} {T : State} {locs : List Loc} {cells slots : Nat} {Fe : Outcome → State → List Loc → Prop} {Q : Option Value → Heap → List Loc → Prop} {pc q : Nat} {Ls : Array Slot} {rest : List Value} {Z : State} {a0 : Array Value} {h h' : Heap}
theorem toNat32 {n : Nat} (h : n < 2 ^ 31) : n.toInt32.toNatClampNeg = n ∧ ¬ n.toInt32 < 0 := (fun q => ⟨q.2, q.1⟩) (Ix.of (len_toInt h))
theorem range_getD (v : Nat → Value) (d : Value) {n t : Nat} (h : t < n) : ((List.range n).map v).getD t d = v t := by
  simp [List.getD_eq_getElem?_getD, h]
theorem Ary.arv {a : Addr} {ty : FieldType} {n : Nat} {v : Nat → Value} (F : Ary Z h a ty n v) (G : ∀ t, t < n → fits ty (v t) = true) (d : Value) : ∃ k, Arv Z h a k ty n.toInt32 ((List.range n).map v) d := by
  obtain ⟨c, A, S, B, H⟩ := F
  refine ⟨c.cls, c, A, rfl, by rw [S, (toNat32 B).1], (toNat32 B).2, fun t ht => ?_, fun t ht => ?_⟩
  · rw [S] at ht; rw [range_getD v d ht]; exact H t ht
  · rw [S] at ht; rw [range_getD v d ht]; exact G t ht
theorem Ary.ofArv {a : Addr} {k : ClassId} {ty : FieldType} {z : Int32} {vs : List Value} {d : Value} {n : Nat} (F : Arv Z h a k ty z vs d) (q : Ix z n) : Ary Z h a ty n (fun t => vs.getD t d) := by
  obtain ⟨c, A, -, S, -, H, -⟩ := F
  refine ⟨c, A, by rw [S, q.2], ?_, fun t ht => H t (by rw [S, q.2]; exact ht)⟩
  have e := q.int
  have b := (rng32 z).2
  omega
theorem Ary.small {a : Addr} {ty : FieldType} {n : Nat} {v : Nat → Value} (F : Ary Z h a ty n v) : n < 2 ^ 31 := by obtain ⟨c, A, S, B, H⟩ := F; exact B
theorem spliced (v v' : Nat → Value) (d : Value) {i n n' t : Nat} (h1 : i ≤ n) (h2 : i ≤ n') (ht : t < n') :
    (((List.range n').map v').take 0 ++ ((List.range i).map fun j => ((List.range n).map v).getD (0 + j) d) ++ ((List.range n').map v').drop (0 + i)).getD t d = if t < i then v t else v' t := by
  have e0 : ((List.range n').map v').take 0 = [] := rfl
  rw [e0, List.nil_append, List.getD_eq_getElem?_getD]
  by_cases q : t < i
  · rw [if_pos q, List.getElem?_append_left (by simp; exact q), List.getElem?_map, List.getElem?_range q]
    show ((List.range n).map v).getD (0 + t) d = v t
    rw [Nat.zero_add]; exact range_getD v d (by omega)
  · rw [if_neg q, List.getElem?_append_right (by simp; omega), List.getElem?_drop]
    simp only [List.length_map, List.length_range]
    have : 0 + i + (t - i) = t := by omega
    rw [this, List.getElem?_map, List.getElem?_range ht]; rfl
theorem k_copy (X : Stand p l e R s m args below meth c T locs cells slots) (hx : p.tables.exec = Jvm.exec) (hZ : Z.Warmed39 s.vm) {own : String} {index : Nat} (hown : s.vm.findClass own = some m.cls)
    (w1 : (Cond.methodLink own index Jvm.Stand.acN).before a0 Z = true) (w2 : (Cond.native Jvm.Stand.acN).before a0 Z = true) (w3 : (Cond.static Jvm.Stand.acN).before a0 Z = true) (w4 : (Cond.initialized "java/lang/System").before a0 Z = true) (eT : T.heap = h)
    {a b : Addr} {ty : FieldType} {n n' : Nat} {v v' : Nat → Value} (hty : refKind ty = false) {nn : Int32} (i : Nat) (A : Ary Z h a ty n v) (B : Ary Z h b ty n' v') (GA : ∀ t, t < n → fits ty (v t) = true) (GB : ∀ t, t < n' → fits ty (v' t) = true) (hi : Ix nn i) (h1 : i ≤ n) (h2 : i ≤ n') {n0 : Nat} (N : Fr n0 locs) (ge : n0 ≤ b)
    (hq : pc + 3 = q) (hd : decode c.code pc = .ok (.invokestatic index, 3)) (hls : Ls.size = c.maxLocals) (hf : 1 ≤ R.frames) (W : Nat) (hW : 2 * 0 + (rest.map fun v => v.category).sum ≤ W) (hlo : W + (nativeFrameWords "java/lang/System" "arraycopy" 5 + 11) ≤ R.locals)
    (k : ∀ T' h' L, Stand p l e R s m args below meth c T' L cells slots → T'.heap = h' → Fr n0 L → Keep h h' [b] → Ary Z h' b ty n' (fun t => if t < i then v t else v' t) → EndG p e below Fe Q (T'.setTop (mkF m q Ls rest))) :
    EndG p e below Fe Q (T.setTop (mkF m pc Ls (.int nn :: .int 0 :: .ref b :: .int 0 :: .ref a :: rest))) := by
  subst hq
  obtain ⟨k1, A1⟩ := A.arv GA (.int 0)
  obtain ⟨k2, B1⟩ := B.arv GB (.int 0)
  have z0 : (0 : Int32).toNatClampNeg = 0 := by decide
  obtain ⟨T', h', L, X', e', N', K', V', st⟩ := cpA X hx hZ hown w1 w2 w3 w4 eT A1 B1 (Or.inl ⟨rfl, hty⟩) (sp := 0) (dp := 0) (nn := nn) (by decide) (by decide) hi.1 (by rw [z0, hi.2, (toNat32 A.small).1]; omega) (by rw [z0, hi.2, (toNat32 B.small).1]; omega) rfl (by rw [z0, hi.2]; simp; omega) N ge (g := (mkF m pc Ls (.int nn :: .int 0 :: .ref b :: .int 0 :: .ref a :: rest))) rfl hls rfl hd hf (W := W) hW hlo
  rw [z0, hi.2] at V'
  refine (k T' h' L X' e' N' K' ?_).st st
  exact (Ary.ofArv V' (Ix.of (len_toInt B.small))).congr fun t ht => spliced v v' (.int 0) h1 h2 ht
theorem k_clone (X : Stand p l e R s m args below meth c T locs cells slots) (hx : p.tables.exec = Jvm.exec) (hZ : Z.Warmed39 s.vm) {own ad : String} {index : Nat} (hown : s.vm.findClass own = some m.cls)
    (w1 : (Cond.methodLink own index ⟨ad, "clone", "()Ljava/lang/Object;"⟩).before a0 Z = true) (w2 : (Cond.sameMethod ad "java/lang/Object" "clone" "()Ljava/lang/Object;").before a0 Z = true) (w3 : (Cond.native ⟨"java/lang/Object", "clone", "()Ljava/lang/Object;"⟩).before a0 Z = true)
    (w4 : (Cond.instanceMethod ⟨"java/lang/Object", "clone", "()Ljava/lang/Object;"⟩).before a0 Z = true) (w5 : (Cond.selects ad ⟨ad, "clone", "()Ljava/lang/Object;"⟩ ⟨"java/lang/Object", "clone", "()Ljava/lang/Object;"⟩).before a0 Z = true) (w6 : (Cond.castable ad "java/lang/Cloneable").before a0 Z = true)
    (eT : T.heap = h) {a : Addr} {ty : FieldType} {n : Nat} {v : Nat → Value} (A : Ary Z h a ty n v) (E : Exa Z h a ad) (G : ∀ t, t < n → fits ty (v t) = true) (hq : pc + 3 = q) (hd : decode c.code pc = .ok (.invokevirtual index, 3)) (hls : Ls.size = c.maxLocals)
    (hf : 1 ≤ R.frames) (W cap : Nat) (hW : 2 * 0 + (rest.map fun v => v.category).sum ≤ W) (hl : W + 14 ≤ R.locals) (hcap : n ≤ cap) (hc : cells + 1 ≤ R.cells) (hsl : slots + cap ≤ R.slots)
    (k : ∀ T' h' a', Stand p l e R s m args below meth c T' locs (cells + 1) (slots + cap) → T'.heap = h' → a' = h.size → Ext h h' → Ary Z h' a' ty n v → Exa Z h' a' ad → EndG p e below Fe Q (T'.setTop (mkF m q Ls (.ref a' :: rest)))) :
    EndG p e below Fe Q (T.setTop (mkF m pc Ls (.ref a :: rest))) := by
  subst hq
  obtain ⟨ce, A, S, B, H⟩ := A
  have FC : FitC Z ce := fitC_of A fun i hi v' hv => by rw [H i (S ▸ hi)] at hv; cases hv; exact G i (S ▸ hi)
  obtain ⟨T', h', X', e', E', A', Ex', st⟩ := cloneA X hx hZ hown w1 w2 w3 w4 w5 w6 eT A E FC (g := (mkF m pc Ls (.ref a :: rest))) rfl hls rfl hd hf (W := W) (cap := cap) hW hl (by rw [S]; exact hcap) hc hsl
  exact (k T' h' _ X' e' rfl E' ⟨_, A', S, B, H⟩ Ex').st st
theorem k_newE (X : Stand p l e R s m args below meth c T locs cells slots) (hx : p.tables.exec = Jvm.exec) (hZ : Z.Warmed39 s.vm) {aty : ArrayType} (w0 : (Cond.arrayClass (newarray.typeOf aty)).before a0 Z = true) (eT : T.heap = h) {n : Int32} (hq : pc + 2 = q) (hd : decode c.code pc = .ok (.newarray aty, 2)) (hn : ¬ n < 0) {cap : Nat} (hcap : n.toNatClampNeg ≤ cap) (hb : cap * 8 ≤ 536870912) (hc : cells + 1 ≤ R.cells) (hl : slots + cap ≤ R.slots) {ad : String} (had : "[" ++ (newarray.typeOf aty).toString = ad)
    (k : ∀ T' h' a cA, Stand p l e R s m args below meth c T' locs (cells + 1) (slots + cap) → T'.heap = h' → a = h.size → Ext h h' → Arr Z h' a (newA cA (newarray.typeOf aty) n) (newarray.typeOf aty) → Exa Z h' a ad → EndG p e below Fe Q (T'.setTop (mkF m q Ls (.ref a :: rest)))) :
    EndG p e below Fe Q (T.setTop (mkF m pc Ls (.int n :: rest))) := by
  subst hq; obtain ⟨T', h', cA, X', e', E', A', Ex', st⟩ := newPE X hx hZ w0 eT (g := (mkF m pc Ls (.int n :: rest))) rfl hd rfl hn hcap hb hc hl had
  exact (k T' h' _ cA X' e' rfl E' A' Ex').st st
end Copy
end Jvm.OwnK
namespace Jvm.OwnK
open Sem ClassFile Op Lib Bundle Jvm.Stand Jvm.Free Jvm.LawKit Jvm.RoadKit
/-- the walk's tables at hand: warmer than Z's; every held literal of EL says its text; what was booked since the start is new -/
def Wd (Z : State) (a0 : Array Value) (s : State) (EL : List (String × Nat)) (vm0 : Vm) (h : Heap) : Prop := Z.Warmed39 vm0 ∧ EW Z a0 EL ∧ CHr Z EL s.vm s.heap vm0 h ∧ ∃ k0, s.Since vm0 k0 ∧ k0 ≤ h.size
abbrev EndW (p : Program) (e : Env) (below : List Frame) (s Z : State) (EL : List (String × Nat)) (Q : Option Value → Heap → List Loc → Prop) (cl sl : Nat) (cur : State) : Prop := EndG p e below (fun o t L => CHr Z EL s.vm s.heap t.vm t.heap ∧ ReturnedEndW s o t L cl sl) Q cur
def ConW (l : Launch) (Z : State) (EL : List (String × Nat)) (y : MethodName) (bytes : ByteArray) (maxL : Nat) (ret : Option FieldType) (ws : List Cond) (rm : Room) (as : Array Value) (h : Heap) (Q : Option Value → Heap → List Loc → Prop) : Prop :=
  MetFree l y (head1 (Cond.code y bytes maxL ret :: ws) rm) (fun a U => a = as ∧ Z.Warmed39 U.vm ∧ U.heap = h ∧ CHv Z EL U.vm h) (fun _ _ _ _ _ => True) (fun _ U o U' => ∃ v L, o = .returned v ∧ Q v U'.heap L ∧ CHr Z EL U.vm U.heap U'.vm U'.heap ∧ ReturnedEndW U o U' L rm.cells rm.slots)
section Wide
variable {p : Program} {l : Launch} {e : Env} {R : Room} {s : State} {m : MethodId} {args : Array Value} {below : List Frame} {meth : Method} {c : Code} {T : State} {locs : List Loc} {cells slots : Nat} {Fe : Outcome → State → List Loc → Prop} {Q : Option Value → Heap → List Loc → Prop} {cl sl : Nat} {pc q : Nat} {Ls : Array Slot} {rest : List Value} {Z : State} {a0 : Array Value} {h h' : Heap} {vm0 : Vm} {EL : List (String × Nat)}
theorem ConW.of {y : MethodName} {bytes : ByteArray} {maxL : Nat} {ret : Option FieldType} {ws : List Cond} {rm : Room} {as : Array Value} (hpl : plainFor y = true) (hE : EW Z a0 EL)
    (body : ∀ (p : Program) (e : Env) (s : State) (m : MethodId) (below : List Frame) (meth : Method) (c : Code) (s₁ : State) (vm0 : Vm), Stand p l e rm (s.setVm vm0) m as below meth c s₁ [] 0 0 → p.tables.exec = Jvm.exec → c.code = bytes → c.maxLocals = maxL → (s.setVm vm0).vm.findClass y.cls = some m.cls → meth.name = y.name → meth.sig.returnType = ret → meth.locks = false → Z.Warmed39 (s.setVm vm0).vm → s₁.heap = h → Wd Z a0 s EL vm0 h → EndW p e below s Z EL Q rm.cells rm.slots (s₁.setTop (entryFrame m as maxL))) :
    ConW l Z EL y bytes maxL ret ws rm as h Q := by
  refine MetFree.of_bodySF hpl hisR ?_
  intro p e s m args below meth c s₁ Bd hml hP hK
  obtain ⟨rfl, hZ, hh, hC⟩ := hP
  have X : Stand p l e rm s m args below meth c s₁ [] 0 0 := Stand.of_body Bd
  obtain ⟨s₂, o, h1, h2, h3, v, L, h4, h5, h6, h7⟩ := body p e s m below meth c s₁ s.vm X Bd.exec Bd.bytes hml (findClass_of_methodNamed Bd.named) (name_of_methodNamed Bd.named Bd.method).1 Bd.returns Bd.notSynchronized hZ (by rw [← hh, Bd.state]; rfl) ⟨hZ, hE, by rw [hh]; exact CHr.refl hC, 0, (State.WarmedH.refl s).since 0, Nat.zero_le _⟩
  exact ⟨s₂, o, h1, h2, h3, v, L, h4, h5, h6, h7⟩
theorem Wd.keep {ws : List Addr} (H : Wd Z a0 s EL vm0 h) (K : Keep h h' ws) (hs : ∀ x ∈ ws, Safe Z EL vm0 h x) : Wd Z a0 s EL vm0 h' := by
  obtain ⟨h1, h2, h3, k0, h4, h5⟩ := H
  exact ⟨h1, h2, h3.trans (CHr.keep K hs h3.1), k0, h4, Nat.le_trans h5 K.1⟩
theorem no_safe {P : Addr → Prop} : ∀ x ∈ ([] : List Addr), P x := fun x hx => by cases hx
theorem one_safe {P : Addr → Prop} {a : Addr} (h : P a) : ∀ x ∈ [a], P x := fun x hx => by cases List.mem_singleton.mp hx; exact h
/-- a String whose value is null is no literal of EL -/
theorem Safe.null {x : Addr} {nI : Nat} (hal : Z.vm.Alike vm0) (w : (Cond.instantiable "java/lang/String" nI).before a0 Z = true) (E : Exa Z h x "java/lang/String") (F : Fld Z h x "java/lang/String" "value" "[B" .null) : Safe Z EL vm0 h x := fun B => by
  obtain ⟨p, hp, u, a, hb, q, hq, ⟨cS, ⟨⟨s1, s2, s3, ⟨cv, kv, iv, s4, s4'⟩, -, s6, s7, s8, s9, s10, s11, s12, -⟩, hfS, hcS⟩, -⟩, hy⟩ := B
  rcases hy with rfl | rfl
  · obtain ⟨kv', z4⟩ := ff_back (U := Wst Z vm0 h) hal s4
    have G : Fld Z h q.sa "java/lang/String" "value" "[B" (.ref q.sd) := ⟨q.sC, cv, kv', iv, q.fSV, s1, z4, s6, s2, s3, by rw [← hal.assignable]; exact s4', s8⟩
    exact Fld.ne F G (by intro z; cases z) rfl
  · obtain ⟨cell, k, e1, e2, e3, e4, e5⟩ := E
    cases e1.symm.trans s10
    obtain ⟨-, k9, hk9, comp, hkind9⟩ := s11
    have hk9 : vm0.classes[q.SA.cls]? = some k9 := hk9
    obtain ⟨k', hk', ek⟩ := hal.2.2 _ _ e3
    cases hk9.symm.trans hk'
    have z := hkind9
    rw [ek] at z
    dsimp only at z
    obtain ⟨cI, kI, hcI, hkI, hord, -, -, -⟩ := Cond.instantiable_spec w
    cases e2.symm.trans hcI
    cases e3.symm.trans hkI
    rw [hord] at z
    cases z
theorem kw_retN (X : Stand p l e R (s.setVm vm0) m args below meth c T locs cells slots) (hx : p.tables.exec = Jvm.exec) {z : Int32} {t : FieldType} (hW : Wd Z a0 s EL vm0 T.heap) (hlk : meth.locks = false) (hcl : cells ≤ cl) (hsl : slots ≤ sl) (hret : meth.sig.returnType = some t) (ht : t = .boolean ∨ t = .byte ∨ t = .char ∨ t = .short) (hd : decode c.code pc = .ok (.ireturn, 1)) (hQ : Q (some (.int (nar t z))) T.heap locs) : EndW p e below s Z EL Q cl sl (T.setTop (mkF m pc Ls (.int z :: rest))) := by
  obtain ⟨hZ, hE, C, k0, hS, hk⟩ := hW
  obtain ⟨fs, hr, hrun, hended, h1, h2, h3, h4⟩ := X.leaveW hS hk (v := (some (.int (nar t z)))) (fun h => by rw [hret] at h; cases h) hlk
  have hC : CHr Z EL s.vm s.heap T.vm T.heap := C.trans (CHv.at X hZ hE C.1)
  refine ⟨_, _, ?_, hrun, hended, _, _, rfl, hQ, hC, h1, h2, h3, h4.mono hcl hsl⟩
  exact retN X hx hret ht hd hr
theorem kw_retA (X : Stand p l e R (s.setVm vm0) m args below meth c T locs cells slots) (hx : p.tables.exec = Jvm.exec) {z : Value} {t : FieldType} (hW : Wd Z a0 s EL vm0 T.heap) (hlk : meth.locks = false) (hcl : cells ≤ cl) (hsl : slots ≤ sl) (hret : meth.sig.returnType = some t) (ht : t.isReference = true) (hz : z.isRef = true) (hd : decode c.code pc = .ok (.areturn, 1)) (hQ : Q (some z) T.heap locs) : EndW p e below s Z EL Q cl sl (T.setTop (mkF m pc Ls (z :: rest))) := by
  obtain ⟨hZ, hE, C, k0, hS, hk⟩ := hW
  obtain ⟨fs, hr, hrun, hended, h1, h2, h3, h4⟩ := X.leaveW hS hk (v := (some z)) (fun h => by rw [hret] at h; cases h) hlk
  have hC : CHr Z EL s.vm s.heap T.vm T.heap := C.trans (CHv.at X hZ hE C.1)
  refine ⟨_, _, ?_, hrun, hended, _, _, rfl, hQ, hC, h1, h2, h3, h4.mono hcl hsl⟩
  exact retOut X hx hret (by cases t <;> first | rfl | (simp [FieldType.isReference] at ht)) (Or.inr (Or.inr (Or.inr (Or.inr ⟨rfl, ht, hz⟩)))) hd hr
theorem kw_retV (X : Stand p l e R (s.setVm vm0) m args below meth c T locs cells slots) (hx : p.tables.exec = Jvm.exec)  (hW : Wd Z a0 s EL vm0 T.heap) (hlk : meth.locks = false) (hcl : cells ≤ cl) (hsl : slots ≤ sl) (hret : meth.sig.returnType = none) (hd : decode c.code pc = .ok (.return_, 1)) (hQ : Q none T.heap locs) : EndW p e below s Z EL Q cl sl (T.setTop (mkF m pc Ls ([]))) := by
  obtain ⟨hZ, hE, C, k0, hS, hk⟩ := hW
  obtain ⟨fs, hr, hrun, hended, h1, h2, h3, h4⟩ := X.leaveW hS hk (v := none) (fun _ => rfl) hlk
  have hC : CHr Z EL s.vm s.heap T.vm T.heap := C.trans (CHv.at X hZ hE C.1)
  refine ⟨_, _, ?_, hrun, hended, _, _, rfl, hQ, hC, h1, h2, h3, h4.mono hcl hsl⟩
  exact X.returnOut hx hret hd hr
theorem kw_ldc (X : Stand p l e R (s.setVm vm0) m args below meth c T locs cells slots) (hx : p.tables.exec = Jvm.exec) (hZ : Z.Warmed39 (s.setVm vm0).vm) {own text : String} {index : Nat} (hown : (s.setVm vm0).vm.findClass own = some m.cls) (w : (Cond.stringLink own index text).before a0 Z = true) (wS : ∀ a ∈ Bundle.stringAtoms, a.before a0 Z = true) (eT : T.heap = h) (hW : Wd Z a0 s EL vm0 h) (hmem : (own, index) ∈ EL)
    {vs : List Value} {z : Int32} (ht : (∀ c ∈ text.toList, c.toNat < 256) ∧ text.toList.map (fun c => Value.int (Jvm.Lit.byteI c.toNat.toUInt16)) = vs) (hz : ¬ z < 0) (hl : z.toNatClampNeg = vs.length) (hq : pc + 2 = q) (hd : decode c.code pc = .ok (.ldc index, 2)) (n : Nat) (hn : 4 * text.toList.length ≤ n) (hbig : n ≤ 536870912) (hc : cells + 2 ≤ R.cells) (hl' : slots + (n + 4) ≤ R.slots)
    (k : ∀ a T' h' b kA, Stand p l e R (s.setVm T'.vm) m args below meth c T' locs (cells + 2) (slots + (n + 4)) → T'.heap = h' → Ext h h' → Z.Warmed39 (s.setVm T'.vm).vm → (s.setVm T'.vm).vm.findClass own = some m.cls → Wd Z a0 s EL T'.vm h' → Exa Z h' a "java/lang/String" → Fld Z h' a "java/lang/String" "coder" "B" (.int 0) → Fld Z h' a "java/lang/String" "value" "[B" (.ref b) → Arv Z h' b kA .byte z vs (.int 0) → CHr Z EL vm0 h T'.vm h' → Lit (s.setVm T'.vm) own index a → (∀ x, Safe Z EL T'.vm h' x → x ≠ a ∧ x ≠ b) → EndG p e below Fe Q (T'.setTop (mkF m q Ls (.ref a :: rest)))) :
    EndG p e below Fe Q (T.setTop (mkF m pc Ls rest)) := by
  subst hq
  obtain ⟨-, hE, C, k0, hS, hk⟩ := hW
  obtain ⟨a, T', h', k1, b, kA, X', e', E', hS', hk', hZ', hown', Ex, F1, F2, A, la, lb, hC, hL, hne, st⟩ := ldcCH X hx hZ hown w wS eT hS hk hE hmem C.1 ht hz hl (g := mkF m pc Ls rest) rfl hd hn hbig hc hl'
  exact (k a T' h' b kA X' e' E' hZ' hown' ⟨hZ', hE, C.trans hC, k1, hS', hk'⟩ Ex F1 F2 A hC hL hne).st st
theorem kw_again (X : Stand p l e R (s.setVm vm0) m args below meth c T locs cells slots) (hx : p.tables.exec = Jvm.exec) (hZ : Z.Warmed39 (s.setVm vm0).vm) {own text : String} {index : Nat} (hown : (s.setVm vm0).vm.findClass own = some m.cls) (w : (Cond.stringLink own index text).before a0 Z = true) {a : Addr} (hL : Lit (s.setVm vm0) own index a) (hq : pc + 2 = q) (hd : decode c.code pc = .ok (.ldc index, 2))
    (k : EndG p e below Fe Q (T.setTop (mkF m q Ls (.ref a :: rest)))) : EndG p e below Fe Q (T.setTop (mkF m pc Ls rest)) := by
  subst hq
  exact k.st (ldcAgain X hx hZ hown w hL (g := mkF m pc Ls rest) rfl hd)
theorem kw_callS (X : Stand p l e R (s.setVm vm0) m args below meth c T locs cells slots) (hx : p.tables.exec = Jvm.exec) (hZ : Z.Warmed39 (s.setVm vm0).vm) {own : String} {index : Nat} {y : MethodName} {bytes : ByteArray} {maxL : Nat} {ret : Option FieldType} {rm : Room} {as : List Value} {Qc : Option Value → Heap → List Loc → Prop} (hown : (s.setVm vm0).vm.findClass own = some m.cls) (w1 : (Cond.methodLink own index y).before a0 Z = true) (w2 : (Cond.static y).before a0 Z = true) (w3 : (Cond.initialized y.cls).before a0 Z = true) (w4 : (Cond.code y bytes maxL ret).before a0 Z = true) (hy : y.cls ≠ "java/lang/invoke/MethodHandle" ∧ y.cls ≠ "java/lang/invoke/VarHandle") (W : Nat) (eT : T.heap = h) (hW : Wd Z a0 s EL vm0 h)
    (hM : ConW l Z EL y bytes maxL ret [] rm as.toArray h Qc) (hf : rm.frames + 1 ≤ R.frames) (hl : W + (maxL + 11) + rm.locals ≤ R.locals) (hcl : cells + rm.cells ≤ R.cells) (hsl : slots + rm.slots ≤ R.slots) (hls : Ls.size = c.maxLocals) {ps : List FieldType} {rt : Option FieldType} (hpd : parseMethodDescriptor y.desc = some ⟨ps, rt⟩) (hlen : as.length = ps.length) (hW2 : 2 * 0 + (rest.map fun v => v.category).sum ≤ W) (hq : pc + 3 = q) (hd : decode c.code pc = .ok (.invokestatic index, 3))
    (k : ∀ v T' L, Stand p l e R (s.setVm T'.vm) m args below meth c T' (locs ++ L) (cells + rm.cells) (slots + rm.slots) → Z.Warmed39 (s.setVm T'.vm).vm → (s.setVm T'.vm).vm.findClass own = some m.cls → Wd Z a0 s EL T'.vm T'.heap → CHr Z EL vm0 h T'.vm T'.heap → Qc v T'.heap L → EndG p e below Fe Q (T'.setTop (mkF m q Ls (v.toList ++ rest)))) :
    EndG p e below Fe Q (T.setTop (mkF m pc Ls (as.reverse ++ rest))) := by
  subst hq
  obtain ⟨-, hE, C, k0, hS, hk⟩ := hW
  obtain ⟨v, _, ⟨T', L', k', n'⟩, -, X', hS', hgr, ⟨Lc, hQ, l', y', z', hC⟩, st⟩ := callSS X hx (y := y) hown (mvT hZ w1) (mvT hZ w2) (mvT hZ w3) (mvT hZ w4) hy (backOfSH (s := s) (W := W) hM hZ w4 w3 hf hl hE C.1) (g := mkF m pc Ls (as.reverse ++ rest)) rfl hls (argsL := as) (rest := rest) (lenOf hpd hlen) rfl hW2 hd (fun _ _ => ⟨rfl, eT, hcl, hsl⟩)
  dsimp only [Pt.U, Pt.locs, Pt.cells, Pt.slots] at X' l' y' z' st hQ hC hS' hgr
  subst l' y' z'
  have hZ' : Z.Warmed39 T'.vm := State.Warmed39.trans (t := s.setVm vm0) hZ hS'.1
  refine (k v T' Lc X' hZ' (by rw [show (s.setVm T'.vm).vm = T'.vm from rfl, hS'.1.alike.findClass]; exact hown) ⟨hZ', hE, C.trans hC, _, foldS (T := T) hS (by rw [eT]; exact hk) hS' hgr, Nat.le_refl _⟩ hC hQ).tr st
theorem kw_callI (X : Stand p l e R (s.setVm vm0) m args below meth c T locs cells slots) (hx : p.tables.exec = Jvm.exec) (hZ : Z.Warmed39 (s.setVm vm0).vm) {own : String} {index : Nat} {y : MethodName} {bytes : ByteArray} {maxL : Nat} {rm : Room} {as : List Value} {Qc : Option Value → Heap → List Loc → Prop} {a : Addr} (hown : (s.setVm vm0).vm.findClass own = some m.cls) (hy1 : y.name = "<init>") (w1 : (Cond.methodLink own index y).before a0 Z = true) (w2 : (Cond.instanceMethod y).before a0 Z = true) (w3 : (Cond.initialized y.cls).before a0 Z = true) (w4 : (Cond.code y bytes maxL none).before a0 Z = true) (hy : y.cls ≠ "java/lang/invoke/MethodHandle" ∧ y.cls ≠ "java/lang/invoke/VarHandle") (W : Nat) (eT : T.heap = h) (hW : Wd Z a0 s EL vm0 h)
    (hM : ConW l Z EL y bytes maxL none [] rm (.ref a :: as).toArray h Qc) (hf : rm.frames + 1 ≤ R.frames) (hl : W + (maxL + 11) + rm.locals ≤ R.locals) (hcl : cells + rm.cells ≤ R.cells) (hsl : slots + rm.slots ≤ R.slots) (hls : Ls.size = c.maxLocals) {ps : List FieldType} {rt : Option FieldType} (hpd : parseMethodDescriptor y.desc = some ⟨ps, rt⟩) (hlen : as.length = ps.length) (hW2 : 2 * 0 + (rest.map fun v => v.category).sum ≤ W) (hq : pc + 3 = q) (hd : decode c.code pc = .ok (.invokespecial index, 3))
    (k : ∀ v T' L, Stand p l e R (s.setVm T'.vm) m args below meth c T' (locs ++ L) (cells + rm.cells) (slots + rm.slots) → Z.Warmed39 (s.setVm T'.vm).vm → (s.setVm T'.vm).vm.findClass own = some m.cls → Wd Z a0 s EL T'.vm T'.heap → CHr Z EL vm0 h T'.vm T'.heap → Qc v T'.heap L → EndG p e below Fe Q (T'.setTop (mkF m q Ls (v.toList ++ rest)))) :
    EndG p e below Fe Q (T.setTop (mkF m pc Ls (as.reverse ++ .ref a :: rest))) := by
  subst hq
  obtain ⟨-, hE, C, k0, hS, hk⟩ := hW
  obtain ⟨v, _, ⟨T', L', k', n'⟩, -, X', hS', hgr, ⟨Lc, hQ, l', y', z', hC⟩, st⟩ := X.specialBackS hx (y := y) hy1 hown (mvT hZ w1) (mvT hZ w2) (mvT hZ w4) hy (backOfSH (s := s) (W := W) hM hZ w4 w3 hf hl hE C.1) (g := mkF m pc Ls (as.reverse ++ .ref a :: rest)) rfl hls (Steps.refl _) (a := a) (argsL := as) (rest := rest) (lenOf hpd hlen) rfl hW2 hd (fun _ _ => ⟨rfl, eT, hcl, hsl⟩)
  dsimp only [Pt.U, Pt.locs, Pt.cells, Pt.slots] at X' l' y' z' st hQ hC hS' hgr
  subst l' y' z'
  have hZ' : Z.Warmed39 T'.vm := State.Warmed39.trans (t := s.setVm vm0) hZ hS'.1
  refine (k v T' Lc X' hZ' (by rw [show (s.setVm T'.vm).vm = T'.vm from rfl, hS'.1.alike.findClass]; exact hown) ⟨hZ', hE, C.trans hC, _, foldS (T := T) hS (by rw [eT]; exact hk) hS' hgr, Nat.le_refl _⟩ hC hQ).tr st
end Wide
end Jvm.OwnK
namespace Jvm.Pilot.@@N@@
open Jvm Jvm.ClassFile Sem Op Lib Jvm.Free Jvm.Stand Jvm.LawKit Jvm.RoadKit Jvm.OwnK Bundle Jvm.Pilot.@@N@@.Jvm.D
theorem pn_0 : plainName "java/lang/StringUTF16" = true := by first | (simp [plainName, overriddenIn]; done) | decide +kernel
theorem pn_1 : plainName "java/lang/String" = true := by first | (simp [plainName, overriddenIn]; done) | decide +kernel
theorem pn_2 : plainName "java/lang/Record" = true := by first | (simp [plainName, overriddenIn]; done) | decide +kernel
theorem pn_3 : plainName "com/example/keyshelf/keyshelf/RuleResult" = true := by first | (simp [plainName, overriddenIn]; done) | decide +kernel
theorem pn_4 : plainName "com/example/keyshelf/keyshelf/RuleResultHoldsPinLaw" = true := by first | (simp [plainName, overriddenIn]; done) | decide +kernel
theorem pd_0 : parseMethodDescriptor "([CI[BII)I" = some ⟨[(.array .char), .int, (.array .byte), .int, .int], some .int⟩ := by decide +kernel
theorem pd_1 : parseMethodDescriptor "([CII)[B" = some ⟨[(.array .char), .int, .int], some (.array .byte)⟩ := by decide +kernel
theorem pd_2 : parseMethodDescriptor "([BI)B" = some ⟨[(.array .byte), .int], some .byte⟩ := by decide +kernel
theorem pd_3 : parseMethodDescriptor "([CIILjava/lang/Void;)V" = some ⟨[(.array .char), .int, .int, (.object "java/lang/Void")], none⟩ := by decide +kernel
theorem pd_4 : parseMethodDescriptor "()V" = some ⟨[], none⟩ := by decide +kernel
theorem pd_5 : parseMethodDescriptor "(Ljava/lang/String;Lcom/example/keyshelf/keyshelf/RuleResult$Outcome;Ljava/lang/String;)V" = some ⟨[(.object "java/lang/String"), (.object "com/example/keyshelf/keyshelf/RuleResult$Outcome"), (.object "java/lang/String")], none⟩ := by decide +kernel
theorem pd_6 : parseMethodDescriptor "(Ljava/lang/String;)Lcom/example/keyshelf/keyshelf/RuleResult;" = some ⟨[(.object "java/lang/String")], some (.object "com/example/keyshelf/keyshelf/RuleResult")⟩ := by decide +kernel
theorem pd_7 : parseMethodDescriptor "()Ljava/lang/String;" = some ⟨[], some (.object "java/lang/String")⟩ := by decide +kernel
theorem pd_8 : parseMethodDescriptor "()Lcom/example/keyshelf/keyshelf/RuleResult$Outcome;" = some ⟨[], some (.object "com/example/keyshelf/keyshelf/RuleResult$Outcome")⟩ := by decide +kernel
theorem pd_9 : parseMethodDescriptor "()Z" = some ⟨[], some .boolean⟩ := by decide +kernel
theorem pd_10 : parseMethodDescriptor "([C)V" = some ⟨[(.array .char)], none⟩ := by decide +kernel
theorem pd_11 : parseMethodDescriptor "(Ljava/lang/Object;)Z" = some ⟨[(.object "java/lang/Object")], some .boolean⟩ := by decide +kernel
theorem os5_13_0 {z0 : Value} {z1 : Value} {z2 : Value} {z3 : Value} {z4 : Value} {z5 : Value} {u : Slot} {v : Int32} (h : One u) : storeLocals #[.val z0, .val z1, .val z2, .val z3, .val z4, .val z5, u] 6 (.int v) = some #[.val z0, .val z1, .val z2, .val z3, .val z4, .val z5, .val (.int v)] := by
  rcases h with rfl | ⟨w, rfl, hw⟩
  · rfl
  · cases w <;> first | rfl | (simp [Value.category] at hw)
theorem os5_13_1 {z0 : Value} {z1 : Value} {z2 : Value} {z3 : Value} {z4 : Value} {z5 : Value} {u : Slot} {v : Int32} (h : One u) : storeLocals #[.val z0, .val z1, .val z2, .val z3, .val z4, .val z5, u] 6 (.int v) = some #[.val z0, .val z1, .val z2, .val z3, .val z4, .val z5, .val (.int v)] := by
  rcases h with rfl | ⟨w, rfl, hw⟩
  · rfl
  · cases w <;> first | rfl | (simp [Value.category] at hw)
theorem own_z0 : (0 : Int32).toInt = 0 := by decide
theorem own_nat {k : Nat} (h : k < 2 ^ 31) : Ix k.toInt32 k := Ix.of (len_toInt h)
theorem own_is {j : Int32} {i : Nat} (h : Ix j i) : j = i.toInt32 := Int32.toInt_inj.mp (by
  have e := h.int
  have b := (rng32 j).2
  rw [len_toInt (by omega), e])
theorem own_up {x : Int32} {k : Nat} (q : Ix x k) (hk : k < 2147483000) : Ix (x + 1) (k + 1) := by
  apply Ix.of
  have e := c_iadd x 1
  have b := rng32 (x + 1)
  have i := q.int
  have e1 : (1 : Int32).toInt = 1 := by decide
  rw [e1] at e
  omega
theorem own_lt {j m : Int32} {k n : Nat} (q : Ix j k) (r : Ix m n) : j < m ↔ k < n := by
  have := q.int
  have := r.int
  rw [Int32.lt_iff_toInt_lt]; omega
theorem own_eqi {j m : Int32} {k n : Nat} (q : Ix j k) (r : Ix m n) : j = m ↔ k = n := by
  have := q.int
  have := r.int
  rw [← Int32.toInt_inj]; omega
theorem own_wS {Z : State} {a0 : Array Value} (hw : ∀ d ∈ tables_1, d.before a0 Z = true) : ∀ a ∈ Bundle.stringAtoms, a.before a0 Z = true := by
  intro a ha
  simp only [Bundle.stringAtoms, List.mem_cons, List.not_mem_nil, or_false] at ha
  rcases ha with rfl | rfl | rfl | rfl | rfl | rfl | rfl
  · exact (hw _ (List.mem_of_getElem? (i := 2) rfl))
  · exact (hw _ (List.mem_of_getElem? (i := 1) rfl))
  · exact (hw _ (List.mem_of_getElem? (i := 19) rfl))
  · exact (hw _ (List.mem_of_getElem? (i := 29) rfl))
  · exact (hw _ (List.mem_of_getElem? (i := 27) rfl))
  · exact (hw _ (List.mem_of_getElem? (i := 40) rfl))
  · exact (hw _ (List.mem_of_getElem? (i := 41) rfl))
theorem own_EL {Z : State} {a0 : Array Value} (hw : ∀ d ∈ tables_1, d.before a0 Z = true) : EW Z a0 consts_1 := (EW.cons (hw _ (List.mem_of_getElem? (i := 39) rfl)) (by decide) (EW.cons (hw _ (List.mem_of_getElem? (i := 83) rfl)) (by decide) EW.nil))
def own_by (ch : Nat → Int32) (i : Nat) : Nat → Value := fun t => .int (if t < i then nar .byte (ch t).toInt8.toInt32 else 0)
theorem own_by_step (ch : Nat → Int32) (i n : Nat) : ∀ t, t < n → (if t = i then Value.int (nar .byte (ch i).toInt8.toInt32) else own_by ch i t) = own_by ch (i + 1) t := by
  intro t _
  unfold own_by
  by_cases q : t = i
  · subst q; rw [if_pos rfl, if_pos (by omega)]
  · rw [if_neg q]
    by_cases r : t < i
    · rw [if_pos r, if_pos (by omega)]
    · rw [if_neg r, if_neg (by omega)]
theorem d5_0 : decode jdk_52_method_21_code 0 = .ok (.iconst 0, 1) := by decide +kernel
theorem d5_1 : decode jdk_52_method_21_code 1 = .ok (.istore 5, 2) := by decide +kernel
theorem d5_3 : decode jdk_52_method_21_code 3 = .ok (.iload 5, 2) := by decide +kernel
theorem d5_5 : decode jdk_52_method_21_code 5 = .ok (.iload 4, 2) := by decide +kernel
theorem d5_7 : decode jdk_52_method_21_code 7 = .ok (.if_icmp .ge 37, 3) := by decide +kernel
theorem d5_10 : decode jdk_52_method_21_code 10 = .ok (.aload_n 0, 1) := by decide +kernel
theorem d5_11 : decode jdk_52_method_21_code 11 = .ok (.iload_n 1, 1) := by decide +kernel
theorem d5_12 : decode jdk_52_method_21_code 12 = .ok (.caload, 1) := by decide +kernel
theorem d5_13 : decode jdk_52_method_21_code 13 = .ok (.istore 6, 2) := by decide +kernel
theorem d5_15 : decode jdk_52_method_21_code 15 = .ok (.iload 6, 2) := by decide +kernel
theorem d5_17 : decode jdk_52_method_21_code 17 = .ok (.sipush 255, 3) := by decide +kernel
theorem d5_20 : decode jdk_52_method_21_code 20 = .ok (.if_icmp .le 6, 3) := by decide +kernel
theorem d5_26 : decode jdk_52_method_21_code 26 = .ok (.aload_n 2, 1) := by decide +kernel
theorem d5_27 : decode jdk_52_method_21_code 27 = .ok (.iload_n 3, 1) := by decide +kernel
theorem d5_28 : decode jdk_52_method_21_code 28 = .ok (.iload 6, 2) := by decide +kernel
theorem d5_30 : decode jdk_52_method_21_code 30 = .ok (.i2b, 1) := by decide +kernel
theorem d5_31 : decode jdk_52_method_21_code 31 = .ok (.bastore, 1) := by decide +kernel
theorem d5_32 : decode jdk_52_method_21_code 32 = .ok (.iinc 1 1, 3) := by decide +kernel
theorem d5_35 : decode jdk_52_method_21_code 35 = .ok (.iinc 3 1, 3) := by decide +kernel
theorem d5_38 : decode jdk_52_method_21_code 38 = .ok (.iinc 5 1, 3) := by decide +kernel
theorem d5_41 : decode jdk_52_method_21_code 41 = .ok (.goto (-38), 3) := by decide +kernel
theorem d5_44 : decode jdk_52_method_21_code 44 = .ok (.iload 4, 2) := by decide +kernel
theorem d5_46 : decode jdk_52_method_21_code 46 = .ok (.ireturn, 1) := by decide +kernel
theorem ef_5 (m : MethodId) (x0 : Addr) (x1 : Int32) (x2 : Addr) (x3 : Int32) (x4 : Int32) : entryFrame m #[(.ref x0), (.int x1), (.ref x2), (.int x3), (.int x4)] 7 = mkF m 0 #[.val (.ref x0), .val (.int x1), .val (.ref x2), .val (.int x3), .val (.int x4), .unset, .unset] [] := by first | (simp [entryFrame, mkF, argsToLocals, Value.category]; done) | rfl
set_option maxRecDepth 65536 in
set_option maxHeartbeats 40000000 in
theorem rm5 (l : Launch) (Z : State) (a0 : Array Value) (hw : ∀ d ∈ tables_1, d.before a0 Z = true) (x0 : Addr) (x1 : Int32) (x2 : Addr) (x3 : Int32) (x4 : Int32) (h0 : Heap) (n0 : Nat) (n : Nat) (hn1 : 1 ≤ n) (hn : n ≤ 4000) (ch : Nat → Int32) (hch : ∀ t, t < n → ¬ (255 : Int32) < ch t) (hx1 : Ix x1 0) (hx3 : Ix x3 0) (hx4 : Ix x4 n) (ga : n0 ≤ x2) (ne : x0 ≠ x2) (V0 : Ary Z h0 x0 .char n (fun t => .int (ch t))) (V2 : Ary Z h0 x2 .byte n (fun _ => .int (0 : Int32))) :
    Con l Z (⟨"java/lang/StringUTF16", "compress", "([CI[BII)I"⟩ : MethodName) jdk_52_method_21_code 7 (some .int) [] ({ frames := 0, cells := 0, slots := 0, locals := 0 } : Room) #[(.ref x0), (.int x1), (.ref x2), (.int x3), (.int x4)] h0 (fun v h L => v = some (.int x4) ∧ Fr n0 L ∧ Keep h0 h [x2] ∧ Ary Z h x2 .byte n (fun t => .int (nar .byte (ch t).toInt8.toInt32))) := by
  refine Con.of (plainFor_of_name pn_0) ?_
  intro p e s m below meth c s₁ X0 hx hby hml hown hnm hret hlk hZ e0
  refine End.cast ?_ (ef_5 m x0 x1 x2 x3 x4)
  have N0 := Fr.nil n0
  have loop : ∀ (d i : Nat) (T : State) (hh : Heap) (lc : List Loc) (o' d' i' : Int32) (u : Slot), n - i < d → Stand p l e ({ frames := 0, cells := 0, slots := 0, locals := 0 } : Room) s m #[(.ref x0), (.int x1), (.ref x2), (.int x3), (.int x4)] below meth c T lc 0 0 → T.heap = hh → Fr n0 lc → Keep h0 hh [x2] → Ary Z hh x0 .char n (fun t => .int (ch t)) → Ary Z hh x2 .byte n (own_by ch i) → Ix o' i → Ix d' i → Ix i' i → i ≤ n → One u → End p e below s (fun v h L => v = some (.int x4) ∧ Fr n0 L ∧ Keep h0 h [x2] ∧ Ary Z h x2 .byte n (fun t => .int (nar .byte (ch t).toInt8.toInt32))) 0 0 (T.setTop (mkF m 3 #[.val (.ref x0), .val (.int o'), .val (.ref x2), .val (.int d'), .val (.int x4), .val (.int i'), u] [])) := by
    intro d
    induction d with
    | zero => intro i T hh lc o' d' i' u h; omega
    | succ d ih =>
      intro i T hh lc o' d' i' u hd X eT NT KT V0 V2 ho hd' hi hle hu
      refine k_iload X hx (q := 5) rfl (hb hby d5_3) rfl ?_
      refine k_iload X hx (q := 7) rfl (hb hby d5_5) rfl ?_
      refine k_icmp_ge X hx (q1 := 44) (q := 10) (by decide) (by decide) rfl (hb hby d5_7) (fun hc1 => ?_) (fun hc1 => ?_)
      · have hik : i = n := by have := mt (own_lt hi hx4).mpr hc1; omega
        refine k_iload X hx (q := 46) rfl (hb hby d5_44) rfl ?_
        exact k_retI X hx hlk (by decide) (by decide) hret (hb hby d5_46) ⟨rfl, NT, by rw [eT]; exact KT, by rw [eT]; exact V2.congr fun t ht => by unfold own_by; rw [if_pos (by omega)]⟩
      · have hik := (own_lt hi hx4).mp hc1
        refine k_aloadN X hx (q := 11) rfl (hb hby d5_10) rfl rfl ?_
        refine k_iloadN X hx (q := 12) rfl (hb hby d5_11) rfl ?_
        refine k_arC X hx hZ eT (x := (.int (ch i))) i (q := 13) rfl (hb hby d5_12) V0 ho hik rfl ?_
        refine k_istore X hx (L' := #[.val (.ref x0), .val (.int o'), .val (.ref x2), .val (.int d'), .val (.int x4), .val (.int i'), .val (.int (ch i))]) (q := 15) rfl (hb hby d5_13) (os5_13_1 hu) ?_
        refine k_iload X hx (q := 17) rfl (hb hby d5_15) rfl ?_
        refine k_sipush X hx (v := (255 : Int32)) rfl (q := 20) rfl (hb hby d5_17) ?_
        refine k_icmp_le X hx (q1 := 26) (q := 23) (by decide) (by decide) rfl (hb hby d5_20) (fun _ => ?_) (fun hc => absurd hc (hch i hik))
        refine k_aloadN X hx (q := 27) rfl (hb hby d5_26) rfl rfl ?_
        refine k_iloadN X hx (q := 28) rfl (hb hby d5_27) rfl ?_
        refine k_iload X hx (q := 30) rfl (hb hby d5_28) rfl ?_
        refine k_i2b X hx (q := 31) rfl (hb hby d5_30) ?_
        refine k_asB X hx hZ eT i (q := 32) rfl (hb hby d5_31) V2 hd' hik ?_
        intro T3 h3 X3 e3 W3 V3
        have K3 := Keep.of_wr W3
        have N3 := Fr.snoc X3 NT ga
        refine k_iinc X3 hx (L' := #[.val (.ref x0), .val (.int (o' + (1 : Int32))), .val (.ref x2), .val (.int d'), .val (.int x4), .val (.int i'), .val (.int (ch i))]) (q := 35) rfl (hb hby d5_32) rfl rfl ?_
        refine k_iinc X3 hx (L' := #[.val (.ref x0), .val (.int (o' + (1 : Int32))), .val (.ref x2), .val (.int (d' + (1 : Int32))), .val (.int x4), .val (.int i'), .val (.int (ch i))]) (q := 38) rfl (hb hby d5_35) rfl rfl ?_
        refine k_iinc X3 hx (L' := #[.val (.ref x0), .val (.int (o' + (1 : Int32))), .val (.ref x2), .val (.int (d' + (1 : Int32))), .val (.int x4), .val (.int (i' + (1 : Int32))), .val (.int (ch i))]) (q := 41) rfl (hb hby d5_38) rfl rfl ?_
        refine k_goto X3 hx (q := 3) (by decide) (by decide) (hb hby d5_41) ?_
        have Gu4 := (V0.keep K3 (ninS ne nin0))
        exact ih (i + 1) _ _ _ _ _ _ _ (by omega) X3 e3 N3 (Keep.trans KT K3 (allS (Or.inl (List.mem_of_getElem? (i := 0) rfl)) all0)) Gu4 (V3.congr (own_by_step ch i n)) (own_up ho (by omega)) (own_up hd' (by omega)) (own_up hi (by omega)) (by omega) (One.val rfl)
  refine k_iconst X0 hx (v := (0 : Int32)) rfl (q := 1) rfl (hb hby d5_0) ?_
  refine k_istore X0 hx (L' := #[.val (.ref x0), .val (.int x1), .val (.ref x2), .val (.int x3), .val (.int x4), .val (.int (0 : Int32)), .unset]) (q := 3) rfl (hb hby d5_1) rfl ?_
  exact loop (n + 1) 0 _ _ _ _ _ _ _ (by omega) X0 e0 N0 (Keep.refl h0 [x2]) V0 (V2.congr fun t _ => by unfold own_by; rw [if_neg (by omega)]) hx1 hx3 ⟨by decide, by decide⟩ (by omega) One.u
theorem d4_0 : decode jdk_52_method_16_code 0 = .ok (.iload_n 2, 1) := by decide +kernel
theorem d4_1 : decode jdk_52_method_16_code 1 = .ok (.newarray .byte, 2) := by decide +kernel
theorem d4_3 : decode jdk_52_method_16_code 3 = .ok (.astore_n 3, 1) := by decide +kernel
theorem d4_4 : decode jdk_52_method_16_code 4 = .ok (.aload_n 0, 1) := by decide +kernel
theorem d4_5 : decode jdk_52_method_16_code 5 = .ok (.iload_n 1, 1) := by decide +kernel
theorem d4_6 : decode jdk_52_method_16_code 6 = .ok (.aload_n 3, 1) := by decide +kernel
theorem d4_7 : decode jdk_52_method_16_code 7 = .ok (.iconst 0, 1) := by decide +kernel
theorem d4_8 : decode jdk_52_method_16_code 8 = .ok (.iload_n 2, 1) := by decide +kernel
theorem d4_9 : decode jdk_52_method_16_code 9 = .ok (.invokestatic 115, 3) := by decide +kernel
theorem d4_12 : decode jdk_52_method_16_code 12 = .ok (.istore 4, 2) := by decide +kernel
theorem d4_14 : decode jdk_52_method_16_code 14 = .ok (.iload 4, 2) := by decide +kernel
theorem d4_16 : decode jdk_52_method_16_code 16 = .ok (.iload_n 2, 1) := by decide +kernel
theorem d4_17 : decode jdk_52_method_16_code 17 = .ok (.if_icmp .eq 40, 3) := by decide +kernel
theorem d4_57 : decode jdk_52_method_16_code 57 = .ok (.aload_n 3, 1) := by decide +kernel
theorem d4_58 : decode jdk_52_method_16_code 58 = .ok (.areturn, 1) := by decide +kernel
theorem ef_4 (m : MethodId) (x0 : Addr) (x1 : Int32) (x2 : Int32) : entryFrame m #[(.ref x0), (.int x1), (.int x2)] 6 = mkF m 0 #[.val (.ref x0), .val (.int x1), .val (.int x2), .unset, .unset, .unset] [] := by first | (simp [entryFrame, mkF, argsToLocals, Value.category]; done) | rfl
set_option maxRecDepth 65536 in
set_option maxHeartbeats 40000000 in
theorem rm4 (l : Launch) (Z : State) (a0 : Array Value) (hw : ∀ d ∈ tables_1, d.before a0 Z = true) (x0 : Addr) (x1 : Int32) (x2 : Int32) (h0 : Heap) (n0 : Nat) (Z0 : n0 ≤ h0.size) (n : Nat) (hn1 : 1 ≤ n) (hn : n ≤ 4000) (ch : Nat → Int32) (hch : ∀ t, t < n → ¬ (255 : Int32) < ch t) (hcap : n ≤ 3) (hx1 : Ix x1 0) (hx2 : Ix x2 n) (V0 : Ary Z h0 x0 .char n (fun t => .int (ch t))) :
    Con l Z (⟨"java/lang/StringUTF16", "compress", "([CII)[B"⟩ : MethodName) jdk_52_method_16_code 6 (some (.array .byte)) [] ({ frames := 1, cells := 1, slots := 3, locals := 18 } : Room) #[(.ref x0), (.int x1), (.int x2)] h0 (fun v h L => ∃ b : Addr, v = some (.ref b) ∧ Fr n0 L ∧ Keep h0 h [] ∧ h0.size ≤ b ∧ Ary Z h b .byte n (fun t => .int (nar .byte (ch t).toInt8.toInt32))) := by
  refine Con.of (plainFor_of_name pn_0) ?_
  intro p e s m below meth c s₁ X0 hx hby hml hown hnm hret hlk hZ e0
  refine End.cast ?_ (ef_4 m x0 x1 x2)
  have N0 := Fr.nil n0
  refine k_iloadN X0 hx (q := 1) rfl (hb hby d4_0) rfl ?_
  refine k_newP X0 hx hZ (hw _ (List.mem_of_getElem? (i := 19) rfl)) e0 (q := 3) rfl (hb hby d4_1) hx2.1 (cap := 3) (by rw [hx2.2]; omega) (by decide) (by decide) (by decide) ?_
  intro T1 h1 ba k1 X1 e1 g1 E1 A1
  have K1 := Keep.of_ext E1
  have V1 : Ary Z h1 ba .byte n (fun _ => .int (0 : Int32)) := Ary.new A1 hx2.1 hx2.2
  refine k_astoreN X1 hx (L' := #[.val (.ref x0), .val (.int x1), .val (.int x2), .val (.ref ba), .unset, .unset]) (q := 4) rfl (hb hby d4_3) rfl rfl ?_
  refine k_aloadN X1 hx (q := 5) rfl (hb hby d4_4) rfl rfl ?_
  refine k_iloadN X1 hx (q := 6) rfl (hb hby d4_5) rfl ?_
  refine k_aloadN X1 hx (q := 7) rfl (hb hby d4_6) rfl rfl ?_
  refine k_iconst X1 hx (v := (0 : Int32)) rfl (q := 8) rfl (hb hby d4_7) ?_
  refine k_iloadN X1 hx (q := 9) rfl (hb hby d4_8) rfl ?_
  have ge_ba : n0 ≤ ba := Nat.le_trans Z0 (Nat.le_of_eq g1.symm)
  have ne_x0_ba : x0 ≠ ba := Nat.ne_of_lt (Nat.lt_of_lt_of_le (V0).lt (Nat.le_of_eq g1.symm))
  have Gu2 := (V0.keep K1 nin0)
  refine k_callS X1 hx hZ (y := (⟨"java/lang/StringUTF16", "compress", "([CI[BII)I"⟩ : MethodName)) hown (hw _ (List.mem_of_getElem? (i := 20) rfl)) (hw _ (List.mem_of_getElem? (i := 21) rfl)) (hw _ (List.mem_of_getElem? (i := 17) rfl)) (hw _ (List.mem_of_getElem? (i := 22) rfl)) (by decide) 0 e1 (rm5 l Z a0 hw x0 x1 ba (0 : Int32) x2 h1 n0 n hn1 hn ch hch hx1 ⟨by decide, by decide⟩ hx2 ge_ba ne_x0_ba Gu2 V1) (by decide) (by decide) (by decide) (by decide) (by rw [hml]; rfl) (as := [(.ref x0), (.int x1), (.ref ba), (.int (0 : Int32)), (.int x2)]) (rest := []) pd_0 rfl (by first | exact Nat.le_refl _ | simp [Value.category]) (q := 12) rfl (hb hby d4_9) ?_
  rintro _ T3 L3 X3 ⟨rfl, N3q, K3, V3⟩
  have N3 := Fr.app N0 N3q
  show End _ _ _ _ _ _ _ (T3.setTop (mkF m 12 #[.val (.ref x0), .val (.int x1), .val (.int x2), .val (.ref ba), .unset, .unset] [(.int x2)]))
  refine k_istore X3 hx (L' := #[.val (.ref x0), .val (.int x1), .val (.int x2), .val (.ref ba), .val (.int x2), .unset]) (q := 14) rfl (hb hby d4_12) rfl ?_
  refine k_iload X3 hx (q := 16) rfl (hb hby d4_14) rfl ?_
  refine k_iloadN X3 hx (q := 17) rfl (hb hby d4_16) rfl ?_
  refine k_icmp_eq X3 hx (q1 := 57) (q := 20) (by decide) (by decide) rfl (hb hby d4_17) (fun _ => ?_) (fun hc => absurd rfl hc)
  refine k_aloadN X3 hx (q := 58) rfl (hb hby d4_57) rfl rfl ?_
  have Kp5 : Keep h0 h1 [] := Keep.trans (Keep.refl h0 []) K1 all0
  have Kp6 : Keep h0 T3.heap [] := Keep.trans Kp5 K3 (allS (Or.inr (Nat.le_trans (Keep.refl h0 []).1 (Nat.le_of_eq g1.symm))) all0)
  exact k_retA X3 hx hlk (by decide) (by decide) hret rfl rfl (hb hby d4_58) ⟨ba, rfl, N3, Kp6, (Nat.le_of_eq g1.symm), V3⟩
theorem d6_0 : decode jdk_52_method_15_code 0 = .ok (.iload_n 1, 1) := by decide +kernel
theorem d6_1 : decode jdk_52_method_15_code 1 = .ok (.aload_n 0, 1) := by decide +kernel
theorem d6_2 : decode jdk_52_method_15_code 2 = .ok (.arraylength, 1) := by decide +kernel
theorem d6_3 : decode jdk_52_method_15_code 3 = .ok (.isub, 1) := by decide +kernel
theorem d6_4 : decode jdk_52_method_15_code 4 = .ok (.bipush 31, 2) := by decide +kernel
theorem d6_6 : decode jdk_52_method_15_code 6 = .ok (.iushr, 1) := by decide +kernel
theorem d6_7 : decode jdk_52_method_15_code 7 = .ok (.i2b, 1) := by decide +kernel
theorem d6_8 : decode jdk_52_method_15_code 8 = .ok (.ireturn, 1) := by decide +kernel
theorem ef_6 (m : MethodId) (x0 : Addr) (x1 : Int32) : entryFrame m #[(.ref x0), (.int x1)] 2 = mkF m 0 #[.val (.ref x0), .val (.int x1)] [] := by first | (simp [entryFrame, mkF, argsToLocals, Value.category]; done) | rfl
set_option maxRecDepth 65536 in
set_option maxHeartbeats 40000000 in
theorem rm6 (l : Launch) (Z : State) (a0 : Array Value) (hw : ∀ d ∈ tables_1, d.before a0 Z = true) (x0 : Addr) (x1 : Int32) (h0 : Heap) (n0 : Nat) (n : Nat) (v : Nat → Value) (hx1 : n.toInt32 = x1) (V0 : Ary Z h0 x0 .byte n v) :
    Con l Z (⟨"java/lang/StringUTF16", "coderFromArrayLen", "([BI)B"⟩ : MethodName) jdk_52_method_15_code 2 (some .byte) [] ({ frames := 0, cells := 0, slots := 0, locals := 0 } : Room) #[(.ref x0), (.int x1)] h0 (fun v h L => v = some (.int 0) ∧ Fr n0 L ∧ h = h0) := by
  refine Con.of (plainFor_of_name pn_0) ?_
  intro p e s m below meth c s₁ X0 hx hby hml hown hnm hret hlk hZ e0
  refine End.cast ?_ (ef_6 m x0 x1)
  have N0 := Fr.nil n0
  refine k_iloadN X0 hx (q := 1) rfl (hb hby d6_0) rfl ?_
  refine k_aloadN X0 hx (q := 2) rfl (hb hby d6_1) rfl rfl ?_
  refine k_al X0 hx hZ e0 (z := x1) (q := 3) rfl (hb hby d6_2) V0 hx1 ?_
  refine k_isub X0 hx (q := 4) rfl (hb hby d6_3) ?_
  refine k_bipush X0 hx (v := (31 : Int32)) rfl (q := 6) rfl (hb hby d6_4) ?_
  refine k_iushr X0 hx (q := 7) rfl (hb hby d6_6) ?_
  refine k_i2b X0 hx (q := 8) rfl (hb hby d6_7) ?_
  exact k_retN X0 hx (t := .byte) hlk (by decide) (by decide) hret (by simp) (hb hby d6_8) ⟨by rw [show x1 - x1 = (0 : Int32) from by simp]; decide, N0, e0⟩
theorem d2_0 : decode jdk_42_method_149_code 0 = .ok (.aload_n 0, 1) := by decide +kernel
theorem d2_1 : decode jdk_42_method_149_code 1 = .ok (.invokespecial 1, 3) := by decide +kernel
theorem d2_4 : decode jdk_42_method_149_code 4 = .ok (.iload_n 3, 1) := by decide +kernel
theorem d2_5 : decode jdk_42_method_149_code 5 = .ok (.ifCond .ne 22, 3) := by decide +kernel
theorem d2_8 : decode jdk_42_method_149_code 8 = .ok (.aload_n 0, 1) := by decide +kernel
theorem d2_9 : decode jdk_42_method_149_code 9 = .ok (.ldc 7, 2) := by decide +kernel
theorem d2_11 : decode jdk_42_method_149_code 11 = .ok (.getfield 9, 3) := by decide +kernel
theorem d2_14 : decode jdk_42_method_149_code 14 = .ok (.putfield 9, 3) := by decide +kernel
theorem d2_17 : decode jdk_42_method_149_code 17 = .ok (.aload_n 0, 1) := by decide +kernel
theorem d2_18 : decode jdk_42_method_149_code 18 = .ok (.ldc 7, 2) := by decide +kernel
theorem d2_20 : decode jdk_42_method_149_code 20 = .ok (.getfield 15, 3) := by decide +kernel
theorem d2_23 : decode jdk_42_method_149_code 23 = .ok (.putfield 15, 3) := by decide +kernel
theorem d2_26 : decode jdk_42_method_149_code 26 = .ok (.return_, 1) := by decide +kernel
theorem d2_27 : decode jdk_42_method_149_code 27 = .ok (.getstatic 38, 3) := by decide +kernel
theorem d2_30 : decode jdk_42_method_149_code 30 = .ok (.ifCond .eq 28, 3) := by decide +kernel
theorem d2_33 : decode jdk_42_method_149_code 33 = .ok (.aload_n 1, 1) := by decide +kernel
theorem d2_34 : decode jdk_42_method_149_code 34 = .ok (.iload_n 2, 1) := by decide +kernel
theorem d2_35 : decode jdk_42_method_149_code 35 = .ok (.iload_n 3, 1) := by decide +kernel
theorem d2_36 : decode jdk_42_method_149_code 36 = .ok (.invokestatic 177, 3) := by decide +kernel
theorem d2_39 : decode jdk_42_method_149_code 39 = .ok (.astore 5, 2) := by decide +kernel
theorem d2_41 : decode jdk_42_method_149_code 41 = .ok (.aload_n 0, 1) := by decide +kernel
theorem d2_42 : decode jdk_42_method_149_code 42 = .ok (.aload 5, 2) := by decide +kernel
theorem d2_44 : decode jdk_42_method_149_code 44 = .ok (.iload_n 3, 1) := by decide +kernel
theorem d2_45 : decode jdk_42_method_149_code 45 = .ok (.invokestatic 47, 3) := by decide +kernel
theorem d2_48 : decode jdk_42_method_149_code 48 = .ok (.putfield 15, 3) := by decide +kernel
theorem d2_51 : decode jdk_42_method_149_code 51 = .ok (.aload_n 0, 1) := by decide +kernel
theorem d2_52 : decode jdk_42_method_149_code 52 = .ok (.aload 5, 2) := by decide +kernel
theorem d2_54 : decode jdk_42_method_149_code 54 = .ok (.putfield 9, 3) := by decide +kernel
theorem d2_57 : decode jdk_42_method_149_code 57 = .ok (.return_, 1) := by decide +kernel
theorem ef_2 (m : MethodId) (x0 : Addr) (x1 : Addr) (x2 : Int32) (x3 : Int32) : entryFrame m #[(.ref x0), (.ref x1), (.int x2), (.int x3), .null] 6 = mkF m 0 #[.val (.ref x0), .val (.ref x1), .val (.int x2), .val (.int x3), .val .null, .unset] [] := by first | (simp [entryFrame, mkF, argsToLocals, Value.category]; done) | rfl
set_option maxRecDepth 65536 in
set_option maxHeartbeats 40000000 in
theorem rm2 (l : Launch) (Z : State) (a0 : Array Value) (hw : ∀ d ∈ tables_1, d.before a0 Z = true) (x0 : Addr) (x1 : Addr) (x2 : Int32) (x3 : Int32) (h0 : Heap) (n0 : Nat) (Z0 : n0 ≤ h0.size) (n : Nat) (hn1 : 1 ≤ n) (hn : n ≤ 4000) (ch : Nat → Int32) (hch : ∀ t, t < n → ¬ (255 : Int32) < ch t) (hcap : n ≤ 3) (hx2 : Ix x2 0) (hx3 : Ix x3 n) (cs : Int32) (hcs : ¬ cs = (0 : Int32)) (hS : Sta Z h0 "java/lang/String" "COMPACT_STRINGS" "Z" (.int cs)) (ga : n0 ≤ x0) (E0 : Exa Z h0 x0 "java/lang/String") (F1 : Fld Z h0 x0 "java/lang/String" "value" "[B" .null) (F2 : Fld Z h0 x0 "java/lang/String" "coder" "B" (.int (0 : Int32))) (V0 : Ary Z h0 x1 .char n (fun t => .int (ch t))) :
    Con l Z (⟨"java/lang/String", "<init>", "([CIILjava/lang/Void;)V"⟩ : MethodName) jdk_42_method_149_code 6 none [] ({ frames := 2, cells := 1, slots := 3, locals := 35 } : Room) #[(.ref x0), (.ref x1), (.int x2), (.int x3), .null] h0 (fun v h L => v = none ∧ Fr n0 L ∧ Keep h0 h [x0] ∧ ∃ b : Addr, h0.size ≤ b ∧ Fld Z h x0 "java/lang/String" "value" "[B" (.ref b) ∧ Fld Z h x0 "java/lang/String" "coder" "B" (.int (0 : Int32)) ∧ Ary Z h b .byte n (fun t => .int (nar .byte (ch t).toInt8.toInt32))) := by
  refine Con.of (plainFor_of_name pn_1) ?_
  intro p e s m below meth c s₁ X0 hx hby hml hown hnm hret hlk hZ e0
  refine End.cast ?_ (ef_2 m x0 x1 x2 x3)
  have N0 := Fr.nil n0
  refine k_aloadN X0 hx (q := 1) rfl (hb hby d2_0) rfl rfl ?_
  refine k_initO X0 hx hZ hown (hw _ (List.mem_of_getElem? (i := 11) rfl)) (hw _ (List.mem_of_getElem? (i := 12) rfl)) (hw _ (List.mem_of_getElem? (i := 13) rfl)) e0 (q := 4) rfl (hb hby d2_1) (by rw [hml]; rfl) (by decide) 0 (by first | exact Nat.le_refl _ | simp [Value.category]) (by decide) ?_
  intro T1 X1 e1
  refine k_iloadN X1 hx (q := 5) rfl (hb hby d2_4) rfl ?_
  refine k_if_ne X1 hx (q1 := 27) (q := 8) (by decide) (by decide) rfl (hb hby d2_5) (fun _ => ?_) (fun hc => absurd hc (fun q => by have := (own_eqi hx3 (m := 0) (n := 0) ⟨by decide, by decide⟩).mp q; omega))
  refine k_getS X1 hx hZ (host := "") hown (Or.inl (hw _ (List.mem_of_getElem? (i := 14) rfl))) Via.refl e1 (v := (.int cs)) (q := 30) rfl (hb hby d2_27) hS ?_
  intro T3 X3 e3
  refine k_if_eq X3 hx (q1 := 58) (q := 33) (by decide) (by decide) rfl (hb hby d2_30) (fun hc => absurd hc hcs) (fun _ => ?_)
  refine k_aloadN X3 hx (q := 34) rfl (hb hby d2_33) rfl rfl ?_
  refine k_iloadN X3 hx (q := 35) rfl (hb hby d2_34) rfl ?_
  refine k_iloadN X3 hx (q := 36) rfl (hb hby d2_35) rfl ?_
  refine k_callS X3 hx hZ (y := (⟨"java/lang/StringUTF16", "compress", "([CII)[B"⟩ : MethodName)) hown (hw _ (List.mem_of_getElem? (i := 15) rfl)) (hw _ (List.mem_of_getElem? (i := 16) rfl)) (hw _ (List.mem_of_getElem? (i := 17) rfl)) (hw _ (List.mem_of_getElem? (i := 18) rfl)) (by decide) 0 e3 (rm4 l Z a0 hw x1 x2 x3 h0 n0 Z0 n hn1 hn ch hch hcap hx2 hx3 V0) (by decide) (by decide) (by decide) (by decide) (by rw [hml]; rfl) (as := [(.ref x1), (.int x2), (.int x3)]) (rest := []) pd_1 rfl (by first | exact Nat.le_refl _ | simp [Value.category]) (q := 39) rfl (hb hby d2_36) ?_
  rintro _ T5 L5 X5 ⟨ba, rfl, N5q, K5, le5, V5⟩
  have N5 := Fr.app N0 N5q
  show End _ _ _ _ _ _ _ (T5.setTop (mkF m 39 #[.val (.ref x0), .val (.ref x1), .val (.int x2), .val (.int x3), .val .null, .unset] [(.ref ba)]))
  refine k_astore X5 hx (L' := #[.val (.ref x0), .val (.ref x1), .val (.int x2), .val (.int x3), .val .null, .val (.ref ba)]) (q := 41) rfl (hb hby d2_39) rfl rfl ?_
  refine k_aloadN X5 hx (q := 42) rfl (hb hby d2_41) rfl rfl ?_
  refine k_aload X5 hx (q := 44) rfl (hb hby d2_42) rfl rfl ?_
  refine k_iloadN X5 hx (q := 45) rfl (hb hby d2_44) rfl ?_
  refine k_callS X5 hx hZ (y := (⟨"java/lang/StringUTF16", "coderFromArrayLen", "([BI)B"⟩ : MethodName)) hown (hw _ (List.mem_of_getElem? (i := 23) rfl)) (hw _ (List.mem_of_getElem? (i := 24) rfl)) (hw _ (List.mem_of_getElem? (i := 17) rfl)) (hw _ (List.mem_of_getElem? (i := 25) rfl)) (by decide) 1 rfl (rm6 l Z a0 hw ba x3 T5.heap n0 n _ (own_is hx3).symm V5) (by decide) (by decide) (by decide) (by decide) (by rw [hml]; rfl) (as := [(.ref ba), (.int x3)]) (rest := [(.ref x0)]) pd_2 rfl (by first | exact Nat.le_refl _ | simp [Value.category]) (q := 48) rfl (hb hby d2_45) ?_
  rintro _ T6 L6 X6 ⟨rfl, N6q, e6⟩
  have N6 := Fr.app N5 N6q
  show End _ _ _ _ _ _ _ (T6.setTop (mkF m 48 #[.val (.ref x0), .val (.ref x1), .val (.int x2), .val (.int x3), .val .null, .val (.ref ba)] [(.int (0 : Int32)), (.ref x0)]))
  have Gu7 := (F2.keep K5 nin0)
  have Gu8 := (E0.keep K5)
  refine k_putFN X6 hx hZ hown (hw _ (List.mem_of_getElem? (i := 26) rfl)) Via.refl e6 (Or.inr ⟨(hw _ (List.mem_of_getElem? (i := 27) rfl)), rfl, hnm⟩) (hw _ (List.mem_of_getElem? (i := 1) rfl)) (ty := .byte) (v' := (.int (nar .byte (0 : Int32)))) (by decide) rfl (fits_nar_byte _) (q := 51) rfl (hb hby d2_48) Gu7 Gu8 ?_
  intro T9 h9 X9 e9 W9
  have K9 := Keep.of_wr W9
  have N9 := Fr.snoc X9 N6 ga
  have Fw9 := (Gu7).same W9
  refine k_aloadN X9 hx (q := 52) rfl (hb hby d2_51) rfl rfl ?_
  refine k_aload X9 hx (q := 54) rfl (hb hby d2_52) rfl rfl ?_
  have Gu10 := ((F1.keep K5 nin0).other W9 (Or.inr (slot_ne (t := (.array .byte)) (t' := .byte) (Or.inr (hw _ (List.mem_of_getElem? (i := 29) rfl))) (Or.inr (hw _ (List.mem_of_getElem? (i := 27) rfl))) (by decide) (by decide) (by decide))))
  have Gu11 := (Gu8.keep K9)
  refine k_putF X9 hx hZ (host := "") hown (Or.inl (hw _ (List.mem_of_getElem? (i := 28) rfl))) Via.refl e9 (Or.inr ⟨(hw _ (List.mem_of_getElem? (i := 29) rfl)), rfl, hnm⟩) (hw _ (List.mem_of_getElem? (i := 1) rfl)) (ty := (.array .byte)) (by decide) rfl rfl (q := 57) rfl (hb hby d2_54) Gu10 Gu11 ?_
  intro T12 h12 X12 e12 W12
  have K12 := Keep.of_wr W12
  have N12 := Fr.snoc X12 N9 ga
  have Fw12 := (Gu10).same W12
  have Kp13 : Keep h0 T5.heap [x0] := Keep.trans (Keep.refl h0 [x0]) K5 all0
  have Kp14 : Keep h0 h9 [x0] := Keep.trans Kp13 K9 (allS (Or.inl (List.mem_of_getElem? (i := 0) rfl)) all0)
  have Kp15 : Keep h0 h12 [x0] := Keep.trans Kp14 K12 (allS (Or.inl (List.mem_of_getElem? (i := 0) rfl)) all0)
  have Gu16 := (Fw9.other W12 (Or.inr (slot_ne (t := .byte) (t' := (.array .byte)) (Or.inr (hw _ (List.mem_of_getElem? (i := 27) rfl))) (Or.inr (hw _ (List.mem_of_getElem? (i := 29) rfl))) (by decide) (by decide) (by decide))))
  have ne_x0_ba : x0 ≠ ba := Nat.ne_of_lt (Nat.lt_of_lt_of_le (E0).lt le5)
  have Gu17 := ((V5.keep K9 (ninS (Ne.symm ne_x0_ba) nin0)).keep K12 (ninS (Ne.symm ne_x0_ba) nin0))
  exact k_retV X12 hx hlk (by decide) (by decide) hret (hb hby d2_57) ⟨rfl, N12, by rw [e12]; exact Kp15, ba, le5, by rw [e12]; exact Fw12, by rw [e12]; exact Gu16, by rw [e12]; exact Gu17⟩
theorem d1_0 : decode jdk_42_method_3_code 0 = .ok (.aload_n 0, 1) := by decide +kernel
theorem d1_1 : decode jdk_42_method_3_code 1 = .ok (.aload_n 1, 1) := by decide +kernel
theorem d1_2 : decode jdk_42_method_3_code 2 = .ok (.iconst 0, 1) := by decide +kernel
theorem d1_3 : decode jdk_42_method_3_code 3 = .ok (.aload_n 1, 1) := by decide +kernel
theorem d1_4 : decode jdk_42_method_3_code 4 = .ok (.arraylength, 1) := by decide +kernel
theorem d1_5 : decode jdk_42_method_3_code 5 = .ok (.aconst_null, 1) := by decide +kernel
theorem d1_6 : decode jdk_42_method_3_code 6 = .ok (.invokespecial 27, 3) := by decide +kernel
theorem d1_9 : decode jdk_42_method_3_code 9 = .ok (.return_, 1) := by decide +kernel
theorem ef_1 (m : MethodId) (x0 : Addr) (x1 : Addr) : entryFrame m #[(.ref x0), (.ref x1)] 2 = mkF m 0 #[.val (.ref x0), .val (.ref x1)] [] := by first | (simp [entryFrame, mkF, argsToLocals, Value.category]; done) | rfl
set_option maxRecDepth 65536 in
set_option maxHeartbeats 40000000 in
theorem rm1 (l : Launch) (Z : State) (a0 : Array Value) (hw : ∀ d ∈ tables_1, d.before a0 Z = true) (x0 : Addr) (x1 : Addr) (h0 : Heap) (n0 : Nat) (Z0 : n0 ≤ h0.size) (n : Nat) (hn1 : 1 ≤ n) (hn : n ≤ 4000) (ch : Nat → Int32) (hch : ∀ t, t < n → ¬ (255 : Int32) < ch t) (hcap : n ≤ 3) (cs : Int32) (hcs : ¬ cs = (0 : Int32)) (hS : Sta Z h0 "java/lang/String" "COMPACT_STRINGS" "Z" (.int cs)) (ga : n0 ≤ x0) (E0 : Exa Z h0 x0 "java/lang/String") (F1 : Fld Z h0 x0 "java/lang/String" "value" "[B" .null) (F2 : Fld Z h0 x0 "java/lang/String" "coder" "B" (.int (0 : Int32))) (V0 : Ary Z h0 x1 .char n (fun t => .int (ch t))) :
    Con l Z (⟨"java/lang/String", "<init>", "([C)V"⟩ : MethodName) jdk_42_method_3_code 2 none [] ({ frames := 3, cells := 1, slots := 3, locals := 52 } : Room) #[(.ref x0), (.ref x1)] h0 (fun v h L => v = none ∧ Fr n0 L ∧ Keep h0 h [x0] ∧ ∃ b : Addr, h0.size ≤ b ∧ Fld Z h x0 "java/lang/String" "value" "[B" (.ref b) ∧ Fld Z h x0 "java/lang/String" "coder" "B" (.int (0 : Int32)) ∧ Ary Z h b .byte n (fun t => .int (nar .byte (ch t).toInt8.toInt32))) := by
  refine Con.of (plainFor_of_name pn_1) ?_
  intro p e s m below meth c s₁ X0 hx hby hml hown hnm hret hlk hZ e0
  refine End.cast ?_ (ef_1 m x0 x1)
  have N0 := Fr.nil n0
  refine k_aloadN X0 hx (q := 1) rfl (hb hby d1_0) rfl rfl ?_
  refine k_aloadN X0 hx (q := 2) rfl (hb hby d1_1) rfl rfl ?_
  refine k_iconst X0 hx (v := (0 : Int32)) rfl (q := 3) rfl (hb hby d1_2) ?_
  refine k_aloadN X0 hx (q := 4) rfl (hb hby d1_3) rfl rfl ?_
  refine k_al X0 hx hZ e0 (z := n.toInt32) (q := 5) rfl (hb hby d1_4) V0 rfl ?_
  refine k_aconst_null X0 hx (q := 6) rfl (hb hby d1_5) ?_
  refine k_callI X0 hx hZ (y := (⟨"java/lang/String", "<init>", "([CIILjava/lang/Void;)V"⟩ : MethodName)) hown rfl (hw _ (List.mem_of_getElem? (i := 7) rfl)) (hw _ (List.mem_of_getElem? (i := 8) rfl)) (hw _ (List.mem_of_getElem? (i := 2) rfl)) (hw _ (List.mem_of_getElem? (i := 10) rfl)) (by decide) 0 e0 (rm2 l Z a0 hw x0 x1 (0 : Int32) n.toInt32 h0 n0 Z0 n hn1 hn ch hch hcap ⟨by decide, by decide⟩ (own_nat (by omega)) cs hcs hS ga E0 F1 F2 V0) (by decide) (by decide) (by decide) (by decide) (by rw [hml]; rfl) (a := x0) (as := [(.ref x1), (.int (0 : Int32)), (.int n.toInt32), .null]) (rest := []) pd_3 rfl (by first | exact Nat.le_refl _ | simp [Value.category]) (q := 9) rfl (hb hby d1_6) ?_
  rintro _ T1 L1 X1 ⟨rfl, N1q, K1, ba, le1, G11, G21, V1⟩
  have N1 := Fr.app N0 N1q
  show End _ _ _ _ _ _ _ (T1.setTop (mkF m 9 #[.val (.ref x0), .val (.ref x1)] []))
  exact k_retV X1 hx hlk (by decide) (by decide) hret (hb hby d1_9) ⟨rfl, N1, K1, ba, le1, G11, G21, V1⟩
theorem ef_2E (m : MethodId) (x0 : Addr) (x1 : Addr) (x2 : Int32) (x3 : Int32) : entryFrame m #[(.ref x0), (.ref x1), (.int x2), (.int x3), .null] 6 = mkF m 0 #[.val (.ref x0), .val (.ref x1), .val (.int x2), .val (.int x3), .val .null, .unset] [] := by first | (simp [entryFrame, mkF, argsToLocals, Value.category]; done) | rfl
set_option maxRecDepth 65536 in
set_option maxHeartbeats 40000000 in
theorem rm2E (l : Launch) (Z : State) (a0 : Array Value) (hw : ∀ d ∈ tables_1, d.before a0 Z = true) (x0 : Addr) (x1 : Addr) (x2 : Int32) (x3 : Int32) (h0 : Heap) (n0 : Nat) (Z0 : n0 ≤ h0.size) (hx3 : x3 = 0) (ga : n0 ≤ x0) (E0 : Exa Z h0 x0 "java/lang/String") (F1 : Fld Z h0 x0 "java/lang/String" "value" "[B" .null) (F2 : Fld Z h0 x0 "java/lang/String" "coder" "B" (.int (0 : Int32))) :
    ConW l Z consts_1 (⟨"java/lang/String", "<init>", "([CIILjava/lang/Void;)V"⟩ : MethodName) jdk_42_method_149_code 6 none [] ({ frames := 2, cells := 2, slots := 4, locals := 35 } : Room) #[(.ref x0), (.ref x1), (.int x2), (.int x3), .null] h0 (fun v h L => v = none ∧ Fr n0 L ∧ Keep h0 h [x0]) := by
  refine ConW.of (plainFor_of_name pn_1) (own_EL hw) ?_
  intro p e s m below meth c s₁ vm0 X0 hx hby hml hown hnm hret hlk hZ e0 W0
  refine End.cast ?_ (ef_2E m x0 x1 x2 x3)
  have N0 := Fr.nil n0
  refine k_aloadN X0 hx (q := 1) rfl (hb hby d2_0) rfl rfl ?_
  refine k_initO X0 hx hZ hown (hw _ (List.mem_of_getElem? (i := 11) rfl)) (hw _ (List.mem_of_getElem? (i := 12) rfl)) (hw _ (List.mem_of_getElem? (i := 13) rfl)) e0 (q := 4) rfl (hb hby d2_1) (by rw [hml]; rfl) (by decide) 0 (by first | exact Nat.le_refl _ | simp [Value.category]) (by decide) ?_
  intro T501 X501 e501
  refine k_iloadN X501 hx (q := 5) rfl (hb hby d2_4) rfl ?_
  refine k_if_ne X501 hx (q1 := 27) (q := 8) (by decide) (by decide) rfl (hb hby d2_5) (fun hc => absurd hx3 hc) (fun _ => ?_)
  refine k_aloadN X501 hx (q := 9) rfl (hb hby d2_8) rfl rfl ?_
  refine kw_ldc X501 hx hZ hown (hw _ (List.mem_of_getElem? (i := 83) rfl)) (own_wS hw) e501 W0 (List.mem_of_getElem? (i := 1) rfl) (vs := []) (z := 0) (by decide) (by decide) (by decide) (q := 11) rfl (hb hby d2_9) 0 (by decide) (by decide) (by decide) (by decide) ?_
  intro la503 T503 h503 lb503 kA503 X503 e503 E503 hZ hown W503 A503 C503 F503 V503 R503 L503 S503
  have K503 := Keep.of_ext E503
  have Vb503 := Ary.ofArv V503 (n := 0) ⟨by decide, by decide⟩
  have Gu504 := (E0.keep K503)
  have Gu505 := (F1.keep K503 nin0)
  have sf := Safe.null (EL := consts_1) hZ.alike (hw _ (List.mem_of_getElem? (i := 1) rfl)) Gu504 Gu505
  refine k_getF X503 hx hZ (host := "") hown (Or.inl (hw _ (List.mem_of_getElem? (i := 28) rfl))) Via.refl e503 (q := 14) rfl (hb hby d2_11) F503 ?_
  intro T506 X506 e506
  refine k_putF X506 hx hZ (host := "") hown (Or.inl (hw _ (List.mem_of_getElem? (i := 28) rfl))) Via.refl e506 (Or.inr ⟨(hw _ (List.mem_of_getElem? (i := 29) rfl)), rfl, hnm⟩) (hw _ (List.mem_of_getElem? (i := 1) rfl)) (ty := (.array .byte)) (by decide) rfl rfl (q := 17) rfl (hb hby d2_14) Gu505 Gu504 ?_
  intro T507 h507 X507 e507 W507
  have K507 := Keep.of_wr W507
  have N507 := Fr.snoc X507 N0 ga
  have Fw507 := (Gu505).same W507
  refine k_aloadN X507 hx (q := 18) rfl (hb hby d2_17) rfl rfl ?_
  refine kw_again X507 hx hZ hown (hw _ (List.mem_of_getElem? (i := 83) rfl)) L503 (q := 20) rfl (hb hby d2_18) ?_
  have Gu508 := (C503.keep K507 (ninS (Ne.symm (S503 x0 sf).1) nin0))
  refine k_getF X507 hx hZ (host := "") hown (Or.inl (hw _ (List.mem_of_getElem? (i := 26) rfl))) Via.refl e507 (q := 23) rfl (hb hby d2_20) Gu508 ?_
  intro T509 X509 e509
  have Gu510 := ((F2.keep K503 nin0).other W507 (Or.inr (slot_ne (t := .byte) (t' := (.array .byte)) (Or.inr (hw _ (List.mem_of_getElem? (i := 27) rfl))) (Or.inr (hw _ (List.mem_of_getElem? (i := 29) rfl))) (by decide) (by decide) (by decide))))
  have Gu511 := (Gu504.keep K507)
  refine k_putFN X509 hx hZ hown (hw _ (List.mem_of_getElem? (i := 26) rfl)) Via.refl e509 (Or.inr ⟨(hw _ (List.mem_of_getElem? (i := 27) rfl)), rfl, hnm⟩) (hw _ (List.mem_of_getElem? (i := 1) rfl)) (ty := .byte) (v' := (.int (nar .byte (0 : Int32)))) (by decide) rfl (fits_nar_byte _) (q := 26) rfl (hb hby d2_23) Gu510 Gu511 ?_
  intro T512 h512 X512 e512 W512
  have K512 := Keep.of_wr W512
  have N512 := Fr.snoc X512 N507 ga
  have Fw512 := (Gu510).same W512
  have Kp513 : Keep h0 h503 [x0] := Keep.trans (Keep.refl h0 [x0]) K503 all0
  have Kp514 : Keep h0 h507 [x0] := Keep.trans Kp513 K507 (allS (Or.inl (List.mem_of_getElem? (i := 0) rfl)) all0)
  have Kp515 : Keep h0 h512 [x0] := Keep.trans Kp514 K512 (allS (Or.inl (List.mem_of_getElem? (i := 0) rfl)) all0)
  have Kp516 : Keep h503 h507 [x0] := Keep.trans (Keep.refl h503 [x0]) K507 (allS (Or.inl (List.mem_of_getElem? (i := 0) rfl)) all0)
  have Kp517 : Keep h503 h512 [x0] := Keep.trans Kp516 K512 (allS (Or.inl (List.mem_of_getElem? (i := 0) rfl)) all0)
  have Wd518 := Wd.keep W503 Kp517 (one_safe sf)
  exact kw_retV X512 hx (by rw [e512]; exact Wd518) hlk (by decide) (by decide) hret (hb hby d2_26) ⟨rfl, N512, by rw [e512]; exact Kp515⟩
theorem ef_1E (m : MethodId) (x0 : Addr) (x1 : Addr) : entryFrame m #[(.ref x0), (.ref x1)] 2 = mkF m 0 #[.val (.ref x0), .val (.ref x1)] [] := by first | (simp [entryFrame, mkF, argsToLocals, Value.category]; done) | rfl
set_option maxRecDepth 65536 in
set_option maxHeartbeats 40000000 in
theorem rm1E (l : Launch) (Z : State) (a0 : Array Value) (hw : ∀ d ∈ tables_1, d.before a0 Z = true) (x0 : Addr) (x1 : Addr) (h0 : Heap) (n0 : Nat) (Z0 : n0 ≤ h0.size) (ga : n0 ≤ x0) (E0 : Exa Z h0 x0 "java/lang/String") (F1 : Fld Z h0 x0 "java/lang/String" "value" "[B" .null) (F2 : Fld Z h0 x0 "java/lang/String" "coder" "B" (.int (0 : Int32))) (v : Nat → Value) (V0 : Ary Z h0 x1 .char 0 v) :
    ConW l Z consts_1 (⟨"java/lang/String", "<init>", "([C)V"⟩ : MethodName) jdk_42_method_3_code 2 none [] ({ frames := 3, cells := 2, slots := 4, locals := 52 } : Room) #[(.ref x0), (.ref x1)] h0 (fun v h L => v = none ∧ Fr n0 L ∧ Keep h0 h [x0]) := by
  refine ConW.of (plainFor_of_name pn_1) (own_EL hw) ?_
  intro p e s m below meth c s₁ vm0 X0 hx hby hml hown hnm hret hlk hZ e0 W0
  refine End.cast ?_ (ef_1E m x0 x1)
  have N0 := Fr.nil n0
  refine k_aloadN X0 hx (q := 1) rfl (hb hby d1_0) rfl rfl ?_
  refine k_aloadN X0 hx (q := 2) rfl (hb hby d1_1) rfl rfl ?_
  refine k_iconst X0 hx (v := (0 : Int32)) rfl (q := 3) rfl (hb hby d1_2) ?_
  refine k_aloadN X0 hx (q := 4) rfl (hb hby d1_3) rfl rfl ?_
  refine k_al X0 hx hZ e0 (z := (0 : Int32)) (q := 5) rfl (hb hby d1_4) V0 (by decide) ?_
  refine k_aconst_null X0 hx (q := 6) rfl (hb hby d1_5) ?_
  refine kw_callI X0 hx hZ (y := (⟨"java/lang/String", "<init>", "([CIILjava/lang/Void;)V"⟩ : MethodName)) (a := x0) hown rfl (hw _ (List.mem_of_getElem? (i := 7) rfl)) (hw _ (List.mem_of_getElem? (i := 8) rfl)) (hw _ (List.mem_of_getElem? (i := 2) rfl)) (hw _ (List.mem_of_getElem? (i := 10) rfl)) (by decide) 0 e0 W0 (rm2E l Z a0 hw x0 x1 (0 : Int32) (0 : Int32) h0 n0 Z0 rfl ga E0 F1 F2) (by decide) (by decide) (by decide) (by decide) (by rw [hml]; rfl) (as := [(.ref x1), (.int (0 : Int32)), (.int (0 : Int32)), .null]) (rest := []) pd_3 rfl (by first | exact Nat.le_refl _ | simp [Value.category]) (q := 9) rfl (hb hby d1_6) ?_
  rintro _ T501 L501 X501 hZ hown W501 R501 ⟨rfl, N501q, K501⟩
  have N501 := Fr.app N0 N501q
  show EndG _ _ _ _ _ (T501.setTop (mkF m 9 #[.val (.ref x0), .val (.ref x1)] []))
  exact kw_retV X501 hx W501 hlk (by decide) (by decide) hret (hb hby d1_9) ⟨rfl, N501, K501⟩
theorem d9_0 : decode jdk_30_method_1_code 0 = .ok (.aload_n 0, 1) := by decide +kernel
theorem d9_1 : decode jdk_30_method_1_code 1 = .ok (.invokespecial 1, 3) := by decide +kernel
theorem d9_4 : decode jdk_30_method_1_code 4 = .ok (.return_, 1) := by decide +kernel
theorem ef_9 (m : MethodId) (x0 : Addr) : entryFrame m #[(.ref x0)] 1 = mkF m 0 #[.val (.ref x0)] [] := by first | (simp [entryFrame, mkF, argsToLocals, Value.category]; done) | rfl
set_option maxRecDepth 65536 in
set_option maxHeartbeats 40000000 in
theorem rm9 (l : Launch) (Z : State) (a0 : Array Value) (hw : ∀ d ∈ tables_1, d.before a0 Z = true) (x0 : Addr) (h0 : Heap) (n0 : Nat) :
    Con l Z (⟨"java/lang/Record", "<init>", "()V"⟩ : MethodName) jdk_30_method_1_code 1 none [] ({ frames := 1, cells := 0, slots := 0, locals := 12 } : Room) #[(.ref x0)] h0 (fun v h L => v = none ∧ Fr n0 L ∧ h = h0) := by
  refine Con.of (plainFor_of_name pn_2) ?_
  intro p e s m below meth c s₁ X0 hx hby hml hown hnm hret hlk hZ e0
  refine End.cast ?_ (ef_9 m x0)
  have N0 := Fr.nil n0
  refine k_aloadN X0 hx (q := 1) rfl (hb hby d9_0) rfl rfl ?_
  refine k_initO X0 hx hZ hown (hw _ (List.mem_of_getElem? (i := 50) rfl)) (hw _ (List.mem_of_getElem? (i := 12) rfl)) (hw _ (List.mem_of_getElem? (i := 13) rfl)) e0 (q := 4) rfl (hb hby d9_1) (by rw [hml]; rfl) (by decide) 0 (by first | exact Nat.le_refl _ | simp [Value.category]) (by decide) ?_
  intro T1 X1 e1
  exact k_retV X1 hx hlk (by decide) (by decide) hret (hb hby d9_4) ⟨rfl, N0, e1⟩
theorem d8_0 : decode prog_6_method_1_code 0 = .ok (.aload_n 0, 1) := by decide +kernel
theorem d8_1 : decode prog_6_method_1_code 1 = .ok (.invokespecial 1, 3) := by decide +kernel
theorem d8_4 : decode prog_6_method_1_code 4 = .ok (.aload_n 0, 1) := by decide +kernel
theorem d8_5 : decode prog_6_method_1_code 5 = .ok (.aload_n 1, 1) := by decide +kernel
theorem d8_6 : decode prog_6_method_1_code 6 = .ok (.putfield 7, 3) := by decide +kernel
theorem d8_9 : decode prog_6_method_1_code 9 = .ok (.aload_n 0, 1) := by decide +kernel
theorem d8_10 : decode prog_6_method_1_code 10 = .ok (.aload_n 2, 1) := by decide +kernel
theorem d8_11 : decode prog_6_method_1_code 11 = .ok (.putfield 13, 3) := by decide +kernel
theorem d8_14 : decode prog_6_method_1_code 14 = .ok (.aload_n 0, 1) := by decide +kernel
theorem d8_15 : decode prog_6_method_1_code 15 = .ok (.aload_n 3, 1) := by decide +kernel
theorem d8_16 : decode prog_6_method_1_code 16 = .ok (.putfield 17, 3) := by decide +kernel
theorem d8_19 : decode prog_6_method_1_code 19 = .ok (.return_, 1) := by decide +kernel
theorem ef_8n (m : MethodId) (x0 : Addr) (x2 : Addr) (x3 : Addr) : entryFrame m #[(.ref x0), .null, (.ref x2), (.ref x3)] 4 = mkF m 0 #[.val (.ref x0), .val .null, .val (.ref x2), .val (.ref x3)] [] := by first | (simp [entryFrame, mkF, argsToLocals, Value.category]; done) | rfl
set_option maxRecDepth 65536 in
set_option maxHeartbeats 40000000 in
theorem rm8n (l : Launch) (Z : State) (a0 : Array Value) (hw : ∀ d ∈ tables_1, d.before a0 Z = true) (x0 : Addr) (x2 : Addr) (x3 : Addr) (h0 : Heap) (n0 : Nat) (ga : n0 ≤ x0) (E0 : Exa Z h0 x0 "com/example/keyshelf/keyshelf/RuleResult") (F_rule : Fld Z h0 x0 "com/example/keyshelf/keyshelf/RuleResult" "rule" "Ljava/lang/String;" .null) (F_outcome : Fld Z h0 x0 "com/example/keyshelf/keyshelf/RuleResult" "outcome" "Lcom/example/keyshelf/keyshelf/RuleResult$Outcome;" .null) (F_reason : Fld Z h0 x0 "com/example/keyshelf/keyshelf/RuleResult" "reason" "Ljava/lang/String;" .null) :
    Con l Z (⟨"com/example/keyshelf/keyshelf/RuleResult", "<init>", "(Ljava/lang/String;Lcom/example/keyshelf/keyshelf/RuleResult$Outcome;Ljava/lang/String;)V"⟩ : MethodName) prog_6_method_1_code 4 none [] ({ frames := 2, cells := 0, slots := 0, locals := 24 } : Room) #[(.ref x0), .null, (.ref x2), (.ref x3)] h0 (fun v h L => v = none ∧ Fr n0 L ∧ Keep h0 h [x0] ∧ Fld Z h x0 "com/example/keyshelf/keyshelf/RuleResult" "rule" "Ljava/lang/String;" .null ∧ Fld Z h x0 "com/example/keyshelf/keyshelf/RuleResult" "outcome" "Lcom/example/keyshelf/keyshelf/RuleResult$Outcome;" (.ref x2) ∧ Fld Z h x0 "com/example/keyshelf/keyshelf/RuleResult" "reason" "Ljava/lang/String;" (.ref x3)) := by
  refine Con.of (plainFor_of_name pn_3) ?_
  intro p e s m below meth c s₁ X0 hx hby hml hown hnm hret hlk hZ e0
  refine End.cast ?_ (ef_8n m x0 x2 x3)
  have N0 := Fr.nil n0
  refine k_aloadN X0 hx (q := 1) rfl (hb hby d8_0) rfl rfl ?_
  refine k_callI X0 hx hZ (y := (⟨"java/lang/Record", "<init>", "()V"⟩ : MethodName)) hown rfl (hw _ (List.mem_of_getElem? (i := 45) rfl)) (hw _ (List.mem_of_getElem? (i := 46) rfl)) (hw _ (List.mem_of_getElem? (i := 48) rfl)) (hw _ (List.mem_of_getElem? (i := 49) rfl)) (by decide) 0 e0 (rm9 l Z a0 hw x0 h0 n0) (by decide) (by decide) (by decide) (by decide) (by rw [hml]; rfl) (a := x0) (as := []) (rest := []) pd_4 rfl (by first | exact Nat.le_refl _ | simp [Value.category]) (q := 4) rfl (hb hby d8_1) ?_
  rintro _ T1 L1 X1 ⟨rfl, N1q, e1⟩
  have N1 := Fr.app N0 N1q
  show End _ _ _ _ _ _ _ (T1.setTop (mkF m 4 #[.val (.ref x0), .val .null, .val (.ref x2), .val (.ref x3)] []))
  refine k_aloadN X1 hx (q := 5) rfl (hb hby d8_4) rfl rfl ?_
  refine k_aloadN X1 hx (q := 6) rfl (hb hby d8_5) rfl rfl ?_
  refine k_putF X1 hx hZ (host := "") hown (Or.inl (hw _ (List.mem_of_getElem? (i := 51) rfl))) Via.refl e1 (Or.inr ⟨(hw _ (List.mem_of_getElem? (i := 52) rfl)), rfl, hnm⟩) (hw _ (List.mem_of_getElem? (i := 35) rfl)) (ty := (.object "java/lang/String")) (by decide) rfl rfl (q := 9) rfl (hb hby d8_6) F_rule E0 ?_
  intro T2 h2 X2 e2 W2
  have K2 := Keep.of_wr W2
  have N2 := Fr.snoc X2 N1 ga
  have Fw2 := (F_rule).same W2
  refine k_aloadN X2 hx (q := 10) rfl (hb hby d8_9) rfl rfl ?_
  refine k_aloadN X2 hx (q := 11) rfl (hb hby d8_10) rfl rfl ?_
  have Gu3 := (F_outcome.other W2 (Or.inr (slot_ne (t := (.object "com/example/keyshelf/keyshelf/RuleResult$Outcome")) (t' := (.object "java/lang/String")) (Or.inr (hw _ (List.mem_of_getElem? (i := 54) rfl))) (Or.inr (hw _ (List.mem_of_getElem? (i := 52) rfl))) (by decide) (by decide) (by decide))))
  have Gu4 := (E0.keep K2)
  refine k_putF X2 hx hZ (host := "") hown (Or.inl (hw _ (List.mem_of_getElem? (i := 53) rfl))) Via.refl e2 (Or.inr ⟨(hw _ (List.mem_of_getElem? (i := 54) rfl)), rfl, hnm⟩) (hw _ (List.mem_of_getElem? (i := 35) rfl)) (ty := (.object "com/example/keyshelf/keyshelf/RuleResult$Outcome")) (by decide) rfl rfl (q := 14) rfl (hb hby d8_11) Gu3 Gu4 ?_
  intro T5 h5 X5 e5 W5
  have K5 := Keep.of_wr W5
  have N5 := Fr.snoc X5 N2 ga
  have Fw5 := (Gu3).same W5
  refine k_aloadN X5 hx (q := 15) rfl (hb hby d8_14) rfl rfl ?_
  refine k_aloadN X5 hx (q := 16) rfl (hb hby d8_15) rfl rfl ?_
  have Gu6 := ((F_reason.other W2 (Or.inr (slot_ne (t := (.object "java/lang/String")) (t' := (.object "java/lang/String")) (Or.inr (hw _ (List.mem_of_getElem? (i := 56) rfl))) (Or.inr (hw _ (List.mem_of_getElem? (i := 52) rfl))) (by decide) (by decide) (by decide)))).other W5 (Or.inr (slot_ne (t := (.object "java/lang/String")) (t' := (.object "com/example/keyshelf/keyshelf/RuleResult$Outcome")) (Or.inr (hw _ (List.mem_of_getElem? (i := 56) rfl))) (Or.inr (hw _ (List.mem_of_getElem? (i := 54) rfl))) (by decide) (by decide) (by decide))))
  have Gu7 := (Gu4.keep K5)
  refine k_putF X5 hx hZ (host := "") hown (Or.inl (hw _ (List.mem_of_getElem? (i := 55) rfl))) Via.refl e5 (Or.inr ⟨(hw _ (List.mem_of_getElem? (i := 56) rfl)), rfl, hnm⟩) (hw _ (List.mem_of_getElem? (i := 35) rfl)) (ty := (.object "java/lang/String")) (by decide) rfl rfl (q := 19) rfl (hb hby d8_16) Gu6 Gu7 ?_
  intro T8 h8 X8 e8 W8
  have K8 := Keep.of_wr W8
  have N8 := Fr.snoc X8 N5 ga
  have Fw8 := (Gu6).same W8
  have Kp9 : Keep h0 h2 [x0] := Keep.trans (Keep.refl h0 [x0]) K2 (allS (Or.inl (List.mem_of_getElem? (i := 0) rfl)) all0)
  have Kp10 : Keep h0 h5 [x0] := Keep.trans Kp9 K5 (allS (Or.inl (List.mem_of_getElem? (i := 0) rfl)) all0)
  have Kp11 : Keep h0 h8 [x0] := Keep.trans Kp10 K8 (allS (Or.inl (List.mem_of_getElem? (i := 0) rfl)) all0)
  have Gu12 := ((Fw2.other W5 (Or.inr (slot_ne (t := (.object "java/lang/String")) (t' := (.object "com/example/keyshelf/keyshelf/RuleResult$Outcome")) (Or.inr (hw _ (List.mem_of_getElem? (i := 52) rfl))) (Or.inr (hw _ (List.mem_of_getElem? (i := 54) rfl))) (by decide) (by decide) (by decide)))).other W8 (Or.inr (slot_ne (t := (.object "java/lang/String")) (t' := (.object "java/lang/String")) (Or.inr (hw _ (List.mem_of_getElem? (i := 52) rfl))) (Or.inr (hw _ (List.mem_of_getElem? (i := 56) rfl))) (by decide) (by decide) (by decide))))
  have Gu13 := (Fw5.other W8 (Or.inr (slot_ne (t := (.object "com/example/keyshelf/keyshelf/RuleResult$Outcome")) (t' := (.object "java/lang/String")) (Or.inr (hw _ (List.mem_of_getElem? (i := 54) rfl))) (Or.inr (hw _ (List.mem_of_getElem? (i := 56) rfl))) (by decide) (by decide) (by decide))))
  exact k_retV X8 hx hlk (by decide) (by decide) hret (hb hby d8_19) ⟨rfl, N8, by rw [e8]; exact Kp11, by rw [e8]; exact Gu12, by rw [e8]; exact Gu13, by rw [e8]; exact Fw8⟩
theorem ef_8r (m : MethodId) (x0 : Addr) (x1 : Addr) (x2 : Addr) (x3 : Addr) : entryFrame m #[(.ref x0), (.ref x1), (.ref x2), (.ref x3)] 4 = mkF m 0 #[.val (.ref x0), .val (.ref x1), .val (.ref x2), .val (.ref x3)] [] := by first | (simp [entryFrame, mkF, argsToLocals, Value.category]; done) | rfl
set_option maxRecDepth 65536 in
set_option maxHeartbeats 40000000 in
theorem rm8r (l : Launch) (Z : State) (a0 : Array Value) (hw : ∀ d ∈ tables_1, d.before a0 Z = true) (x0 : Addr) (x1 : Addr) (x2 : Addr) (x3 : Addr) (h0 : Heap) (n0 : Nat) (ga : n0 ≤ x0) (E0 : Exa Z h0 x0 "com/example/keyshelf/keyshelf/RuleResult") (F_rule : Fld Z h0 x0 "com/example/keyshelf/keyshelf/RuleResult" "rule" "Ljava/lang/String;" .null) (F_outcome : Fld Z h0 x0 "com/example/keyshelf/keyshelf/RuleResult" "outcome" "Lcom/example/keyshelf/keyshelf/RuleResult$Outcome;" .null) (F_reason : Fld Z h0 x0 "com/example/keyshelf/keyshelf/RuleResult" "reason" "Ljava/lang/String;" .null) :
    Con l Z (⟨"com/example/keyshelf/keyshelf/RuleResult", "<init>", "(Ljava/lang/String;Lcom/example/keyshelf/keyshelf/RuleResult$Outcome;Ljava/lang/String;)V"⟩ : MethodName) prog_6_method_1_code 4 none [] ({ frames := 2, cells := 0, slots := 0, locals := 24 } : Room) #[(.ref x0), (.ref x1), (.ref x2), (.ref x3)] h0 (fun v h L => v = none ∧ Fr n0 L ∧ Keep h0 h [x0] ∧ Fld Z h x0 "com/example/keyshelf/keyshelf/RuleResult" "rule" "Ljava/lang/String;" (.ref x1) ∧ Fld Z h x0 "com/example/keyshelf/keyshelf/RuleResult" "outcome" "Lcom/example/keyshelf/keyshelf/RuleResult$Outcome;" (.ref x2) ∧ Fld Z h x0 "com/example/keyshelf/keyshelf/RuleResult" "reason" "Ljava/lang/String;" (.ref x3)) := by
  refine Con.of (plainFor_of_name pn_3) ?_
  intro p e s m below meth c s₁ X0 hx hby hml hown hnm hret hlk hZ e0
  refine End.cast ?_ (ef_8r m x0 x1 x2 x3)
  have N0 := Fr.nil n0
  refine k_aloadN X0 hx (q := 1) rfl (hb hby d8_0) rfl rfl ?_
  refine k_callI X0 hx hZ (y := (⟨"java/lang/Record", "<init>", "()V"⟩ : MethodName)) hown rfl (hw _ (List.mem_of_getElem? (i := 45) rfl)) (hw _ (List.mem_of_getElem? (i := 46) rfl)) (hw _ (List.mem_of_getElem? (i := 48) rfl)) (hw _ (List.mem_of_getElem? (i := 49) rfl)) (by decide) 0 e0 (rm9 l Z a0 hw x0 h0 n0) (by decide) (by decide) (by decide) (by decide) (by rw [hml]; rfl) (a := x0) (as := []) (rest := []) pd_4 rfl (by first | exact Nat.le_refl _ | simp [Value.category]) (q := 4) rfl (hb hby d8_1) ?_
  rintro _ T1 L1 X1 ⟨rfl, N1q, e1⟩
  have N1 := Fr.app N0 N1q
  show End _ _ _ _ _ _ _ (T1.setTop (mkF m 4 #[.val (.ref x0), .val (.ref x1), .val (.ref x2), .val (.ref x3)] []))
  refine k_aloadN X1 hx (q := 5) rfl (hb hby d8_4) rfl rfl ?_
  refine k_aloadN X1 hx (q := 6) rfl (hb hby d8_5) rfl rfl ?_
  refine k_putF X1 hx hZ (host := "") hown (Or.inl (hw _ (List.mem_of_getElem? (i := 51) rfl))) Via.refl e1 (Or.inr ⟨(hw _ (List.mem_of_getElem? (i := 52) rfl)), rfl, hnm⟩) (hw _ (List.mem_of_getElem? (i := 35) rfl)) (ty := (.object "java/lang/String")) (by decide) rfl rfl (q := 9) rfl (hb hby d8_6) F_rule E0 ?_
  intro T2 h2 X2 e2 W2
  have K2 := Keep.of_wr W2
  have N2 := Fr.snoc X2 N1 ga
  have Fw2 := (F_rule).same W2
  refine k_aloadN X2 hx (q := 10) rfl (hb hby d8_9) rfl rfl ?_
  refine k_aloadN X2 hx (q := 11) rfl (hb hby d8_10) rfl rfl ?_
  have Gu3 := (F_outcome.other W2 (Or.inr (slot_ne (t := (.object "com/example/keyshelf/keyshelf/RuleResult$Outcome")) (t' := (.object "java/lang/String")) (Or.inr (hw _ (List.mem_of_getElem? (i := 54) rfl))) (Or.inr (hw _ (List.mem_of_getElem? (i := 52) rfl))) (by decide) (by decide) (by decide))))
  have Gu4 := (E0.keep K2)
  refine k_putF X2 hx hZ (host := "") hown (Or.inl (hw _ (List.mem_of_getElem? (i := 53) rfl))) Via.refl e2 (Or.inr ⟨(hw _ (List.mem_of_getElem? (i := 54) rfl)), rfl, hnm⟩) (hw _ (List.mem_of_getElem? (i := 35) rfl)) (ty := (.object "com/example/keyshelf/keyshelf/RuleResult$Outcome")) (by decide) rfl rfl (q := 14) rfl (hb hby d8_11) Gu3 Gu4 ?_
  intro T5 h5 X5 e5 W5
  have K5 := Keep.of_wr W5
  have N5 := Fr.snoc X5 N2 ga
  have Fw5 := (Gu3).same W5
  refine k_aloadN X5 hx (q := 15) rfl (hb hby d8_14) rfl rfl ?_
  refine k_aloadN X5 hx (q := 16) rfl (hb hby d8_15) rfl rfl ?_
  have Gu6 := ((F_reason.other W2 (Or.inr (slot_ne (t := (.object "java/lang/String")) (t' := (.object "java/lang/String")) (Or.inr (hw _ (List.mem_of_getElem? (i := 56) rfl))) (Or.inr (hw _ (List.mem_of_getElem? (i := 52) rfl))) (by decide) (by decide) (by decide)))).other W5 (Or.inr (slot_ne (t := (.object "java/lang/String")) (t' := (.object "com/example/keyshelf/keyshelf/RuleResult$Outcome")) (Or.inr (hw _ (List.mem_of_getElem? (i := 56) rfl))) (Or.inr (hw _ (List.mem_of_getElem? (i := 54) rfl))) (by decide) (by decide) (by decide))))
  have Gu7 := (Gu4.keep K5)
  refine k_putF X5 hx hZ (host := "") hown (Or.inl (hw _ (List.mem_of_getElem? (i := 55) rfl))) Via.refl e5 (Or.inr ⟨(hw _ (List.mem_of_getElem? (i := 56) rfl)), rfl, hnm⟩) (hw _ (List.mem_of_getElem? (i := 35) rfl)) (ty := (.object "java/lang/String")) (by decide) rfl rfl (q := 19) rfl (hb hby d8_16) Gu6 Gu7 ?_
  intro T8 h8 X8 e8 W8
  have K8 := Keep.of_wr W8
  have N8 := Fr.snoc X8 N5 ga
  have Fw8 := (Gu6).same W8
  have Kp9 : Keep h0 h2 [x0] := Keep.trans (Keep.refl h0 [x0]) K2 (allS (Or.inl (List.mem_of_getElem? (i := 0) rfl)) all0)
  have Kp10 : Keep h0 h5 [x0] := Keep.trans Kp9 K5 (allS (Or.inl (List.mem_of_getElem? (i := 0) rfl)) all0)
  have Kp11 : Keep h0 h8 [x0] := Keep.trans Kp10 K8 (allS (Or.inl (List.mem_of_getElem? (i := 0) rfl)) all0)
  have Gu12 := ((Fw2.other W5 (Or.inr (slot_ne (t := (.object "java/lang/String")) (t' := (.object "com/example/keyshelf/keyshelf/RuleResult$Outcome")) (Or.inr (hw _ (List.mem_of_getElem? (i := 52) rfl))) (Or.inr (hw _ (List.mem_of_getElem? (i := 54) rfl))) (by decide) (by decide) (by decide)))).other W8 (Or.inr (slot_ne (t := (.object "java/lang/String")) (t' := (.object "java/lang/String")) (Or.inr (hw _ (List.mem_of_getElem? (i := 52) rfl))) (Or.inr (hw _ (List.mem_of_getElem? (i := 56) rfl))) (by decide) (by decide) (by decide))))
  have Gu13 := (Fw5.other W8 (Or.inr (slot_ne (t := (.object "com/example/keyshelf/keyshelf/RuleResult$Outcome")) (t' := (.object "java/lang/String")) (Or.inr (hw _ (List.mem_of_getElem? (i := 54) rfl))) (Or.inr (hw _ (List.mem_of_getElem? (i := 56) rfl))) (by decide) (by decide) (by decide))))
  exact k_retV X8 hx hlk (by decide) (by decide) hret (hb hby d8_19) ⟨rfl, N8, by rw [e8]; exact Kp11, by rw [e8]; exact Gu12, by rw [e8]; exact Gu13, by rw [e8]; exact Fw8⟩
theorem d7_0 : decode prog_6_method_2_code 0 = .ok (.new 8, 3) := by decide +kernel
theorem d7_3 : decode prog_6_method_2_code 3 = .ok (.dup, 1) := by decide +kernel
theorem d7_4 : decode prog_6_method_2_code 4 = .ok (.aload_n 0, 1) := by decide +kernel
theorem d7_5 : decode prog_6_method_2_code 5 = .ok (.getstatic 20, 3) := by decide +kernel
theorem d7_8 : decode prog_6_method_2_code 8 = .ok (.ldc 25, 2) := by decide +kernel
theorem d7_10 : decode prog_6_method_2_code 10 = .ok (.invokespecial 27, 3) := by decide +kernel
theorem d7_13 : decode prog_6_method_2_code 13 = .ok (.areturn, 1) := by decide +kernel
theorem ef_7n (m : MethodId)  : entryFrame m #[.null] 1 = mkF m 0 #[.val .null] [] := by first | (simp [entryFrame, mkF, argsToLocals, Value.category]; done) | rfl
set_option maxRecDepth 65536 in
set_option maxHeartbeats 40000000 in
theorem rm7n (l : Launch) (Z : State) (a0 : Array Value) (hw : ∀ d ∈ tables_1, d.before a0 Z = true)  (h0 : Heap) (n0 : Nat) (Z0 : n0 ≤ h0.size) (O0 : Old Z n0 h0) (hd : Addr) (hH : Sta Z Z.heap "com/example/keyshelf/keyshelf/RuleResult$Outcome" "HELD" "Lcom/example/keyshelf/keyshelf/RuleResult$Outcome;" (.ref hd)) :
    ConW l Z consts_1 (⟨"com/example/keyshelf/keyshelf/RuleResult", "holds", "(Ljava/lang/String;)Lcom/example/keyshelf/keyshelf/RuleResult;"⟩ : MethodName) prog_6_method_2_code 1 (some (.object "com/example/keyshelf/keyshelf/RuleResult")) [] ({ frames := 3, cells := 3, slots := 7, locals := 40 } : Room) #[.null] h0 (fun v h L => ∃ (rr la lb : Addr) (g : Nat → Value), v = some (.ref rr) ∧ Fr n0 L ∧ Keep h0 h [] ∧ h0.size ≤ rr ∧ Exa Z h rr "com/example/keyshelf/keyshelf/RuleResult" ∧ Fld Z h rr "com/example/keyshelf/keyshelf/RuleResult" "rule" "Ljava/lang/String;" .null ∧ Fld Z h rr "com/example/keyshelf/keyshelf/RuleResult" "outcome" "Lcom/example/keyshelf/keyshelf/RuleResult$Outcome;" (.ref hd) ∧ Fld Z h rr "com/example/keyshelf/keyshelf/RuleResult" "reason" "Ljava/lang/String;" (.ref la) ∧ Exa Z h la "java/lang/String" ∧ Fld Z h la "java/lang/String" "value" "[B" (.ref lb) ∧ Ary Z h lb .byte 0 g) := by
  refine ConW.of (plainFor_of_name pn_3) (own_EL hw) ?_
  intro p e s m below meth c s₁ vm0 X0 hx hby hml hown hnm hret hlk hZ e0 W0
  refine End.cast ?_ (ef_7n m )
  have N0 := Fr.nil n0
  refine k_new X0 hx hZ hown (hw _ (List.mem_of_getElem? (i := 34) rfl)) (hw _ (List.mem_of_getElem? (i := 35) rfl)) (hw _ (List.mem_of_getElem? (i := 32) rfl)) e0 (q := 3) rfl (hb hby d7_0) (by decide) (by decide) ?_
  intro T1 h1 rr X1 e1 g1 E1 A1 D1
  have K1 := Keep.of_ext E1
  have F2 : Fld Z h1 rr "com/example/keyshelf/keyshelf/RuleResult" "rule" "Ljava/lang/String;" .null := D1 (Or.inr (hw _ (List.mem_of_getElem? (i := 52) rfl))) (ty := (.object "java/lang/String")) (by decide)
  have F3 : Fld Z h1 rr "com/example/keyshelf/keyshelf/RuleResult" "outcome" "Lcom/example/keyshelf/keyshelf/RuleResult$Outcome;" .null := D1 (Or.inr (hw _ (List.mem_of_getElem? (i := 54) rfl))) (ty := (.object "com/example/keyshelf/keyshelf/RuleResult$Outcome")) (by decide)
  have F4 : Fld Z h1 rr "com/example/keyshelf/keyshelf/RuleResult" "reason" "Ljava/lang/String;" .null := D1 (Or.inr (hw _ (List.mem_of_getElem? (i := 56) rfl))) (ty := (.object "java/lang/String")) (by decide)
  refine k_dup X1 hx (q := 4) rfl (hb hby d7_3) rfl ?_
  refine k_aloadN X1 hx (q := 5) rfl (hb hby d7_4) rfl rfl ?_
  have Od5 : Old Z n0 h1 := Old.keep O0 K1 all0
  refine k_getS X1 hx hZ (host := "") hown (Or.inl (hw _ (List.mem_of_getElem? (i := 36) rfl))) Via.refl e1 (v := (.ref hd)) (q := 8) rfl (hb hby d7_5) (hH.ext Od5.2) ?_
  intro T6 X6 e6
  have Kp7 : Keep h0 h1 [] := Keep.trans (Keep.refl h0 []) K1 all0
  have Wd8 := Wd.keep W0 Kp7 no_safe
  refine kw_ldc X6 hx hZ hown (hw _ (List.mem_of_getElem? (i := 39) rfl)) (own_wS hw) e6 Wd8 (List.mem_of_getElem? (i := 0) rfl) (vs := []) (z := 0) (by decide) (by decide) (by decide) (q := 10) rfl (hb hby d7_8) 0 (by decide) (by decide) (by decide) (by decide) ?_
  intro la9 T9 h9 lb9 kA9 X9 e9 E9 hZ hown W9 A9 C9 F9 V9 R9 L9 S9
  have K9 := Keep.of_ext E9
  have Vb9 := Ary.ofArv V9 (n := 0) ⟨by decide, by decide⟩
  have Gu10 := (A1.keep K9)
  have sf := Safe.exa hZ.alike Gu10 (by decide) (by decide) (EL := consts_1)
  have Gu11 := (F2.keep K9 nin0)
  have Gu12 := (F3.keep K9 nin0)
  have Gu13 := (F4.keep K9 nin0)
  have ge_rr : n0 ≤ rr := Nat.le_trans Z0 (Nat.le_of_eq g1.symm)
  refine k_callI X9 hx hZ (y := (⟨"com/example/keyshelf/keyshelf/RuleResult", "<init>", "(Ljava/lang/String;Lcom/example/keyshelf/keyshelf/RuleResult$Outcome;Ljava/lang/String;)V"⟩ : MethodName)) hown rfl (hw _ (List.mem_of_getElem? (i := 42) rfl)) (hw _ (List.mem_of_getElem? (i := 43) rfl)) (hw _ (List.mem_of_getElem? (i := 32) rfl)) (hw _ (List.mem_of_getElem? (i := 44) rfl)) (by decide) 1 e9 (rm8n l Z a0 hw rr hd la9 h9 n0 ge_rr Gu10 Gu11 Gu12 Gu13) (by decide) (by decide) (by decide) (by decide) (by rw [hml]; rfl) (a := rr) (as := [.null, (.ref hd), (.ref la9)]) (rest := [(.ref rr)]) pd_5 rfl (by first | exact Nat.le_refl _ | simp [Value.category]) (q := 13) rfl (hb hby d7_10) ?_
  rintro _ T14 L14 X14 ⟨rfl, N14q, K14, G114, G214, G314⟩
  have N14 := Fr.app N0 N14q
  show EndG _ _ _ _ _ (T14.setTop (mkF m 13 #[.val .null] [(.ref rr)]))
  have Kp15 : Keep h0 h9 [] := Keep.trans Kp7 K9 all0
  have Kp16 : Keep h0 T14.heap [] := Keep.trans Kp15 K14 (allS (Or.inr (Nat.le_trans (Keep.refl h0 []).1 (Nat.le_of_eq g1.symm))) all0)
  have Gu17 := (Gu10.keep K14)
  have Gu18 := (A9.keep K14)
  have Gu19 := (F9.keep K14 (ninS (Ne.symm (S9 rr sf).1) nin0))
  have Gu20 := (Vb9.keep K14 (ninS (Ne.symm (S9 rr sf).2) nin0))
  have Kp21 : Keep h9 T14.heap [rr] := Keep.trans (Keep.refl h9 [rr]) K14 (allS (Or.inl (List.mem_of_getElem? (i := 0) rfl)) all0)
  have Wd22 := Wd.keep W9 Kp21 (one_safe sf)
  exact kw_retA X14 hx Wd22 hlk (by decide) (by decide) hret rfl rfl (hb hby d7_13) ⟨rr, la9, lb9, _, rfl, N14, Kp16, (Nat.le_of_eq g1.symm), Gu17, G114, G214, G314, Gu18, Gu19, Gu20⟩
theorem ef_7r (m : MethodId) (x0 : Addr) : entryFrame m #[(.ref x0)] 1 = mkF m 0 #[.val (.ref x0)] [] := by first | (simp [entryFrame, mkF, argsToLocals, Value.category]; done) | rfl
set_option maxRecDepth 65536 in
set_option maxHeartbeats 40000000 in
theorem rm7r (l : Launch) (Z : State) (a0 : Array Value) (hw : ∀ d ∈ tables_1, d.before a0 Z = true) (x0 : Addr) (h0 : Heap) (n0 : Nat) (Z0 : n0 ≤ h0.size) (O0 : Old Z n0 h0) (hd : Addr) (hH : Sta Z Z.heap "com/example/keyshelf/keyshelf/RuleResult$Outcome" "HELD" "Lcom/example/keyshelf/keyshelf/RuleResult$Outcome;" (.ref hd)) :
    ConW l Z consts_1 (⟨"com/example/keyshelf/keyshelf/RuleResult", "holds", "(Ljava/lang/String;)Lcom/example/keyshelf/keyshelf/RuleResult;"⟩ : MethodName) prog_6_method_2_code 1 (some (.object "com/example/keyshelf/keyshelf/RuleResult")) [] ({ frames := 3, cells := 3, slots := 7, locals := 40 } : Room) #[(.ref x0)] h0 (fun v h L => ∃ (rr la lb : Addr) (g : Nat → Value), v = some (.ref rr) ∧ Fr n0 L ∧ Keep h0 h [] ∧ h0.size ≤ rr ∧ Exa Z h rr "com/example/keyshelf/keyshelf/RuleResult" ∧ Fld Z h rr "com/example/keyshelf/keyshelf/RuleResult" "rule" "Ljava/lang/String;" (.ref x0) ∧ Fld Z h rr "com/example/keyshelf/keyshelf/RuleResult" "outcome" "Lcom/example/keyshelf/keyshelf/RuleResult$Outcome;" (.ref hd) ∧ Fld Z h rr "com/example/keyshelf/keyshelf/RuleResult" "reason" "Ljava/lang/String;" (.ref la) ∧ Exa Z h la "java/lang/String" ∧ Fld Z h la "java/lang/String" "value" "[B" (.ref lb) ∧ Ary Z h lb .byte 0 g) := by
  refine ConW.of (plainFor_of_name pn_3) (own_EL hw) ?_
  intro p e s m below meth c s₁ vm0 X0 hx hby hml hown hnm hret hlk hZ e0 W0
  refine End.cast ?_ (ef_7r m x0)
  have N0 := Fr.nil n0
  refine k_new X0 hx hZ hown (hw _ (List.mem_of_getElem? (i := 34) rfl)) (hw _ (List.mem_of_getElem? (i := 35) rfl)) (hw _ (List.mem_of_getElem? (i := 32) rfl)) e0 (q := 3) rfl (hb hby d7_0) (by decide) (by decide) ?_
  intro T1 h1 rr X1 e1 g1 E1 A1 D1
  have K1 := Keep.of_ext E1
  have F2 : Fld Z h1 rr "com/example/keyshelf/keyshelf/RuleResult" "rule" "Ljava/lang/String;" .null := D1 (Or.inr (hw _ (List.mem_of_getElem? (i := 52) rfl))) (ty := (.object "java/lang/String")) (by decide)
  have F3 : Fld Z h1 rr "com/example/keyshelf/keyshelf/RuleResult" "outcome" "Lcom/example/keyshelf/keyshelf/RuleResult$Outcome;" .null := D1 (Or.inr (hw _ (List.mem_of_getElem? (i := 54) rfl))) (ty := (.object "com/example/keyshelf/keyshelf/RuleResult$Outcome")) (by decide)
  have F4 : Fld Z h1 rr "com/example/keyshelf/keyshelf/RuleResult" "reason" "Ljava/lang/String;" .null := D1 (Or.inr (hw _ (List.mem_of_getElem? (i := 56) rfl))) (ty := (.object "java/lang/String")) (by decide)
  refine k_dup X1 hx (q := 4) rfl (hb hby d7_3) rfl ?_
  refine k_aloadN X1 hx (q := 5) rfl (hb hby d7_4) rfl rfl ?_
  have Od5 : Old Z n0 h1 := Old.keep O0 K1 all0
  refine k_getS X1 hx hZ (host := "") hown (Or.inl (hw _ (List.mem_of_getElem? (i := 36) rfl))) Via.refl e1 (v := (.ref hd)) (q := 8) rfl (hb hby d7_5) (hH.ext Od5.2) ?_
  intro T6 X6 e6
  have Kp7 : Keep h0 h1 [] := Keep.trans (Keep.refl h0 []) K1 all0
  have Wd8 := Wd.keep W0 Kp7 no_safe
  refine kw_ldc X6 hx hZ hown (hw _ (List.mem_of_getElem? (i := 39) rfl)) (own_wS hw) e6 Wd8 (List.mem_of_getElem? (i := 0) rfl) (vs := []) (z := 0) (by decide) (by decide) (by decide) (q := 10) rfl (hb hby d7_8) 0 (by decide) (by decide) (by decide) (by decide) ?_
  intro la9 T9 h9 lb9 kA9 X9 e9 E9 hZ hown W9 A9 C9 F9 V9 R9 L9 S9
  have K9 := Keep.of_ext E9
  have Vb9 := Ary.ofArv V9 (n := 0) ⟨by decide, by decide⟩
  have Gu10 := (A1.keep K9)
  have sf := Safe.exa hZ.alike Gu10 (by decide) (by decide) (EL := consts_1)
  have Gu11 := (F2.keep K9 nin0)
  have Gu12 := (F3.keep K9 nin0)
  have Gu13 := (F4.keep K9 nin0)
  have ge_rr : n0 ≤ rr := Nat.le_trans Z0 (Nat.le_of_eq g1.symm)
  refine k_callI X9 hx hZ (y := (⟨"com/example/keyshelf/keyshelf/RuleResult", "<init>", "(Ljava/lang/String;Lcom/example/keyshelf/keyshelf/RuleResult$Outcome;Ljava/lang/String;)V"⟩ : MethodName)) hown rfl (hw _ (List.mem_of_getElem? (i := 42) rfl)) (hw _ (List.mem_of_getElem? (i := 43) rfl)) (hw _ (List.mem_of_getElem? (i := 32) rfl)) (hw _ (List.mem_of_getElem? (i := 44) rfl)) (by decide) 1 e9 (rm8r l Z a0 hw rr x0 hd la9 h9 n0 ge_rr Gu10 Gu11 Gu12 Gu13) (by decide) (by decide) (by decide) (by decide) (by rw [hml]; rfl) (a := rr) (as := [(.ref x0), (.ref hd), (.ref la9)]) (rest := [(.ref rr)]) pd_5 rfl (by first | exact Nat.le_refl _ | simp [Value.category]) (q := 13) rfl (hb hby d7_10) ?_
  rintro _ T14 L14 X14 ⟨rfl, N14q, K14, G114, G214, G314⟩
  have N14 := Fr.app N0 N14q
  show EndG _ _ _ _ _ (T14.setTop (mkF m 13 #[.val (.ref x0)] [(.ref rr)]))
  have Kp15 : Keep h0 h9 [] := Keep.trans Kp7 K9 all0
  have Kp16 : Keep h0 T14.heap [] := Keep.trans Kp15 K14 (allS (Or.inr (Nat.le_trans (Keep.refl h0 []).1 (Nat.le_of_eq g1.symm))) all0)
  have Gu17 := (Gu10.keep K14)
  have Gu18 := (A9.keep K14)
  have Gu19 := (F9.keep K14 (ninS (Ne.symm (S9 rr sf).1) nin0))
  have Gu20 := (Vb9.keep K14 (ninS (Ne.symm (S9 rr sf).2) nin0))
  have Kp21 : Keep h9 T14.heap [rr] := Keep.trans (Keep.refl h9 [rr]) K14 (allS (Or.inl (List.mem_of_getElem? (i := 0) rfl)) all0)
  have Wd22 := Wd.keep W9 Kp21 (one_safe sf)
  exact kw_retA X14 hx Wd22 hlk (by decide) (by decide) hret rfl rfl (hb hby d7_13) ⟨rr, la9, lb9, _, rfl, N14, Kp16, (Nat.le_of_eq g1.symm), Gu17, G114, G214, G314, Gu18, Gu19, Gu20⟩
theorem d10_0 : decode prog_6_method_9_code 0 = .ok (.aload_n 0, 1) := by decide +kernel
theorem d10_1 : decode prog_6_method_9_code 1 = .ok (.getfield 7, 3) := by decide +kernel
theorem d10_4 : decode prog_6_method_9_code 4 = .ok (.areturn, 1) := by decide +kernel
theorem ef_10 (m : MethodId) (x0 : Addr) : entryFrame m #[(.ref x0)] 1 = mkF m 0 #[.val (.ref x0)] [] := by first | (simp [entryFrame, mkF, argsToLocals, Value.category]; done) | rfl
set_option maxRecDepth 65536 in
set_option maxHeartbeats 40000000 in
theorem rm10 (l : Launch) (Z : State) (a0 : Array Value) (hw : ∀ d ∈ tables_1, d.before a0 Z = true) (x0 : Addr) (h0 : Heap) (n0 : Nat) (rv : Value) (hrv : rv.isRef = true) (F1 : Fld Z h0 x0 "com/example/keyshelf/keyshelf/RuleResult" "rule" "Ljava/lang/String;" rv) :
    Con l Z (⟨"com/example/keyshelf/keyshelf/RuleResult", "rule", "()Ljava/lang/String;"⟩ : MethodName) prog_6_method_9_code 1 (some (.object "java/lang/String")) [] ({ frames := 0, cells := 0, slots := 0, locals := 0 } : Room) #[(.ref x0)] h0 (fun v h L => v = some rv ∧ Fr n0 L ∧ h = h0) := by
  refine Con.of (plainFor_of_name pn_3) ?_
  intro p e s m below meth c s₁ X0 hx hby hml hown hnm hret hlk hZ e0
  refine End.cast ?_ (ef_10 m x0)
  have N0 := Fr.nil n0
  refine k_aloadN X0 hx (q := 1) rfl (hb hby d10_0) rfl rfl ?_
  refine k_getF X0 hx hZ (host := "") hown (Or.inl (hw _ (List.mem_of_getElem? (i := 51) rfl))) Via.refl e0 (q := 4) rfl (hb hby d10_1) F1 ?_
  intro T1 X1 e1
  exact k_retA X1 hx hlk (by decide) (by decide) hret rfl hrv (hb hby d10_4) ⟨rfl, N0, e1⟩
theorem d12_0 : decode prog_6_method_10_code 0 = .ok (.aload_n 0, 1) := by decide +kernel
theorem d12_1 : decode prog_6_method_10_code 1 = .ok (.getfield 13, 3) := by decide +kernel
theorem d12_4 : decode prog_6_method_10_code 4 = .ok (.areturn, 1) := by decide +kernel
theorem ef_12 (m : MethodId) (x0 : Addr) : entryFrame m #[(.ref x0)] 1 = mkF m 0 #[.val (.ref x0)] [] := by first | (simp [entryFrame, mkF, argsToLocals, Value.category]; done) | rfl
set_option maxRecDepth 65536 in
set_option maxHeartbeats 40000000 in
theorem rm12 (l : Launch) (Z : State) (a0 : Array Value) (hw : ∀ d ∈ tables_1, d.before a0 Z = true) (x0 : Addr) (h0 : Heap) (n0 : Nat) (rv : Value) (hrv : rv.isRef = true) (F1 : Fld Z h0 x0 "com/example/keyshelf/keyshelf/RuleResult" "outcome" "Lcom/example/keyshelf/keyshelf/RuleResult$Outcome;" rv) :
    Con l Z (⟨"com/example/keyshelf/keyshelf/RuleResult", "outcome", "()Lcom/example/keyshelf/keyshelf/RuleResult$Outcome;"⟩ : MethodName) prog_6_method_10_code 1 (some (.object "com/example/keyshelf/keyshelf/RuleResult$Outcome")) [] ({ frames := 0, cells := 0, slots := 0, locals := 0 } : Room) #[(.ref x0)] h0 (fun v h L => v = some rv ∧ Fr n0 L ∧ h = h0) := by
  refine Con.of (plainFor_of_name pn_3) ?_
  intro p e s m below meth c s₁ X0 hx hby hml hown hnm hret hlk hZ e0
  refine End.cast ?_ (ef_12 m x0)
  have N0 := Fr.nil n0
  refine k_aloadN X0 hx (q := 1) rfl (hb hby d12_0) rfl rfl ?_
  refine k_getF X0 hx hZ (host := "") hown (Or.inl (hw _ (List.mem_of_getElem? (i := 53) rfl))) Via.refl e0 (q := 4) rfl (hb hby d12_1) F1 ?_
  intro T1 X1 e1
  exact k_retA X1 hx hlk (by decide) (by decide) hret rfl hrv (hb hby d12_4) ⟨rfl, N0, e1⟩
theorem d13_0 : decode prog_6_method_11_code 0 = .ok (.aload_n 0, 1) := by decide +kernel
theorem d13_1 : decode prog_6_method_11_code 1 = .ok (.getfield 17, 3) := by decide +kernel
theorem d13_4 : decode prog_6_method_11_code 4 = .ok (.areturn, 1) := by decide +kernel
theorem ef_13 (m : MethodId) (x0 : Addr) : entryFrame m #[(.ref x0)] 1 = mkF m 0 #[.val (.ref x0)] [] := by first | (simp [entryFrame, mkF, argsToLocals, Value.category]; done) | rfl
set_option maxRecDepth 65536 in
set_option maxHeartbeats 40000000 in
theorem rm13 (l : Launch) (Z : State) (a0 : Array Value) (hw : ∀ d ∈ tables_1, d.before a0 Z = true) (x0 : Addr) (h0 : Heap) (n0 : Nat) (rv : Value) (hrv : rv.isRef = true) (F1 : Fld Z h0 x0 "com/example/keyshelf/keyshelf/RuleResult" "reason" "Ljava/lang/String;" rv) :
    Con l Z (⟨"com/example/keyshelf/keyshelf/RuleResult", "reason", "()Ljava/lang/String;"⟩ : MethodName) prog_6_method_11_code 1 (some (.object "java/lang/String")) [] ({ frames := 0, cells := 0, slots := 0, locals := 0 } : Room) #[(.ref x0)] h0 (fun v h L => v = some rv ∧ Fr n0 L ∧ h = h0) := by
  refine Con.of (plainFor_of_name pn_3) ?_
  intro p e s m below meth c s₁ X0 hx hby hml hown hnm hret hlk hZ e0
  refine End.cast ?_ (ef_13 m x0)
  have N0 := Fr.nil n0
  refine k_aloadN X0 hx (q := 1) rfl (hb hby d13_0) rfl rfl ?_
  refine k_getF X0 hx hZ (host := "") hown (Or.inl (hw _ (List.mem_of_getElem? (i := 55) rfl))) Via.refl e0 (q := 4) rfl (hb hby d13_1) F1 ?_
  intro T1 X1 e1
  exact k_retA X1 hx hlk (by decide) (by decide) hret rfl hrv (hb hby d13_4) ⟨rfl, N0, e1⟩
theorem d11_0 : decode jdk_42_method_66_code 0 = .ok (.aload_n 0, 1) := by decide +kernel
theorem d11_1 : decode jdk_42_method_66_code 1 = .ok (.aload_n 1, 1) := by decide +kernel
theorem d11_2 : decode jdk_42_method_66_code 2 = .ok (.if_acmp .ne 5, 3) := by decide +kernel
theorem d11_5 : decode jdk_42_method_66_code 5 = .ok (.iconst 1, 1) := by decide +kernel
theorem d11_6 : decode jdk_42_method_66_code 6 = .ok (.ireturn, 1) := by decide +kernel
theorem ef_11 (m : MethodId) (x0 : Addr) (x1 : Addr) : entryFrame m #[(.ref x0), (.ref x1)] 3 = mkF m 0 #[.val (.ref x0), .val (.ref x1), .unset] [] := by first | (simp [entryFrame, mkF, argsToLocals, Value.category]; done) | rfl
set_option maxRecDepth 65536 in
set_option maxHeartbeats 40000000 in
theorem rm11 (l : Launch) (Z : State) (a0 : Array Value) (hw : ∀ d ∈ tables_1, d.before a0 Z = true) (x0 : Addr) (x1 : Addr) (h0 : Heap) (n0 : Nat) (hsame : x0 = x1) :
    Con l Z (⟨"java/lang/String", "equals", "(Ljava/lang/Object;)Z"⟩ : MethodName) jdk_42_method_66_code 3 (some .boolean) [] ({ frames := 0, cells := 0, slots := 0, locals := 0 } : Room) #[(.ref x0), (.ref x1)] h0 (fun v h L => v = some (.int 1) ∧ Fr n0 L ∧ h = h0) := by
  refine Con.of (plainFor_of_name pn_1) ?_
  intro p e s m below meth c s₁ X0 hx hby hml hown hnm hret hlk hZ e0
  refine End.cast ?_ (ef_11 m x0 x1)
  have N0 := Fr.nil n0
  refine k_aloadN X0 hx (q := 1) rfl (hb hby d11_0) rfl rfl ?_
  refine k_aloadN X0 hx (q := 2) rfl (hb hby d11_1) rfl rfl ?_
  refine k_acmp_n X0 hx (q := 5) rfl (hb hby d11_2) rfl rfl (acmp_ne_f hsame) ?_
  refine k_iconst X0 hx (v := (1 : Int32)) rfl (q := 6) rfl (hb hby d11_5) ?_
  exact k_retN X0 hx (t := .boolean) hlk (by decide) (by decide) hret (by simp) (hb hby d11_6) ⟨rfl, N0, e0⟩
theorem d14_0 : decode jdk_42_method_55_code 0 = .ok (.aload_n 0, 1) := by decide +kernel
theorem d14_1 : decode jdk_42_method_55_code 1 = .ok (.getfield 9, 3) := by decide +kernel
theorem d14_4 : decode jdk_42_method_55_code 4 = .ok (.arraylength, 1) := by decide +kernel
theorem d14_5 : decode jdk_42_method_55_code 5 = .ok (.ifCond .ne 7, 3) := by decide +kernel
theorem d14_8 : decode jdk_42_method_55_code 8 = .ok (.iconst 1, 1) := by decide +kernel
theorem d14_9 : decode jdk_42_method_55_code 9 = .ok (.goto 4, 3) := by decide +kernel
theorem d14_13 : decode jdk_42_method_55_code 13 = .ok (.ireturn, 1) := by decide +kernel
theorem ef_14 (m : MethodId) (x0 : Addr) : entryFrame m #[(.ref x0)] 1 = mkF m 0 #[.val (.ref x0)] [] := by first | (simp [entryFrame, mkF, argsToLocals, Value.category]; done) | rfl
set_option maxRecDepth 65536 in
set_option maxHeartbeats 40000000 in
theorem rm14 (l : Launch) (Z : State) (a0 : Array Value) (hw : ∀ d ∈ tables_1, d.before a0 Z = true) (x0 : Addr) (h0 : Heap) (n0 : Nat) (lb : Addr) (g : Nat → Value) (F1 : Fld Z h0 x0 "java/lang/String" "value" "[B" (.ref lb)) (V0 : Ary Z h0 lb .byte 0 g) :
    Con l Z (⟨"java/lang/String", "isEmpty", "()Z"⟩ : MethodName) jdk_42_method_55_code 1 (some .boolean) [] ({ frames := 0, cells := 0, slots := 0, locals := 0 } : Room) #[(.ref x0)] h0 (fun v h L => v = some (.int 1) ∧ Fr n0 L ∧ h = h0) := by
  refine Con.of (plainFor_of_name pn_1) ?_
  intro p e s m below meth c s₁ X0 hx hby hml hown hnm hret hlk hZ e0
  refine End.cast ?_ (ef_14 m x0)
  have N0 := Fr.nil n0
  refine k_aloadN X0 hx (q := 1) rfl (hb hby d14_0) rfl rfl ?_
  refine k_getF X0 hx hZ (host := "") hown (Or.inl (hw _ (List.mem_of_getElem? (i := 28) rfl))) Via.refl e0 (q := 4) rfl (hb hby d14_1) F1 ?_
  intro T1 X1 e1
  refine k_al X1 hx hZ e1 (z := (0 : Int32)) (q := 5) rfl (hb hby d14_4) V0 (by decide) ?_
  refine k_if_ne X1 hx (q1 := 12) (q := 8) (by decide) (by decide) rfl (hb hby d14_5) (fun hc => absurd rfl hc) (fun _ => ?_)
  refine k_iconst X1 hx (v := (1 : Int32)) rfl (q := 9) rfl (hb hby d14_8) ?_
  refine k_goto X1 hx (q := 13) (by decide) (by decide) (hb hby d14_9) ?_
  exact k_retN X1 hx (t := .boolean) hlk (by decide) (by decide) hret (by simp) (hb hby d14_13) ⟨rfl, N0, e1⟩
theorem own_char (x : Int32) : ¬ (255 : Int32) < (nar .char (x &&& (255 : Int32)).toUInt32.toUInt16.toUInt32.toInt32) := by
  have e := c_mask x 255 8 (by decide) (by decide)
  have t : ((2 ^ 8 : Nat) : Int) = 256 := by decide
  rw [t] at e
  have a := c_i2c (x &&& (255 : Int32))
  have b := c_i2c (x &&& (255 : Int32)).toUInt32.toUInt16.toUInt32.toInt32
  have k : (255 : Int32).toInt = 255 := by decide
  rw [Int32.lt_iff_toInt_lt]
  show ¬ (255 : Int32).toInt < ((x &&& (255 : Int32)).toUInt32.toUInt16.toUInt32.toInt32.toUInt32.toUInt16.toUInt32.toInt32).toInt
  omega

theorem ef_0 (m : MethodId) (x0 : Int32) (x1 : Int32) (x2 : Int32) (x3 : Int32) : entryFrame m #[(.int x0), (.int x1), (.int x2), (.int x3)] maxLocals = mkF m 0 #[.val (.int x0), .val (.int x1), .val (.int x2), .val (.int x3), .unset, .unset, .unset, .unset, .unset, .unset, .unset, .unset, .unset, .unset, .unset] [] := by first | (simp [entryFrame, mkF, argsToLocals, Value.category, maxLocals]; done) | rfl
set_option maxRecDepth 65536 in
set_option maxHeartbeats 40000000 in
theorem rmL (l : Launch) (Z : State) (a0 : Array Value) (hw : ∀ d ∈ tables_1, d.before a0 Z = true) (x0 : Int32) (x1 : Int32) (x2 : Int32) (x3 : Int32) (h0 : Heap) (n0 : Nat) (Z0 : n0 ≤ h0.size) (O0 : Old Z n0 h0) (hd : Addr) (hH : Sta Z Z.heap "com/example/keyshelf/keyshelf/RuleResult$Outcome" "HELD" "Lcom/example/keyshelf/keyshelf/RuleResult$Outcome;" (.ref hd)) (cs : Int32) (hcs : ¬ cs = (0 : Int32)) (hS : Sta Z Z.heap "java/lang/String" "COMPACT_STRINGS" "Z" (.int cs)) :
    ConW l Z consts_1 x code maxLocals ret tables_1 room_1 #[(.int x0), (.int x1), (.int x2), (.int x3)] h0 (fun v h L => v = some (.int 1) ∧ Fr n0 L) := by
  refine ConW.of (plainFor_of_name pn_4) (own_EL hw) ?_
  intro p e s m below meth c s₁ vm0 X0 hx hby hml hown hnm hret hlk hZ e0 W0
  refine End.cast ?_ (ef_0 m x0 x1 x2 x3)
  have N0 := Fr.nil n0
  refine k_iloadN X0 hx (q := 1) rfl (hb hby at_0) rfl ?_
  refine k_sipush X0 hx (v := (255 : Int32)) rfl (q := 4) rfl (hb hby at_1) ?_
  refine k_iand X0 hx (q := 5) rfl (hb hby at_4) ?_
  refine k_i2c X0 hx (q := 6) rfl (hb hby at_5) ?_
  refine k_istore X0 hx (L' := #[.val (.int x0), .val (.int x1), .val (.int x2), .val (.int x3), .val (.int (x0 &&& (255 : Int32)).toUInt32.toUInt16.toUInt32.toInt32), .unset, .unset, .unset, .unset, .unset, .unset, .unset, .unset, .unset, .unset]) (q := 8) rfl (hb hby at_6) rfl ?_
  refine k_iloadN X0 hx (q := 9) rfl (hb hby at_8) rfl ?_
  refine k_sipush X0 hx (v := (255 : Int32)) rfl (q := 12) rfl (hb hby at_9) ?_
  refine k_iand X0 hx (q := 13) rfl (hb hby at_12) ?_
  refine k_i2c X0 hx (q := 14) rfl (hb hby at_13) ?_
  refine k_istore X0 hx (L' := #[.val (.int x0), .val (.int x1), .val (.int x2), .val (.int x3), .val (.int (x0 &&& (255 : Int32)).toUInt32.toUInt16.toUInt32.toInt32), .val (.int (x1 &&& (255 : Int32)).toUInt32.toUInt16.toUInt32.toInt32), .unset, .unset, .unset, .unset, .unset, .unset, .unset, .unset, .unset]) (q := 16) rfl (hb hby at_14) rfl ?_
  refine k_iloadN X0 hx (q := 17) rfl (hb hby at_16) rfl ?_
  refine k_sipush X0 hx (v := (255 : Int32)) rfl (q := 20) rfl (hb hby at_17) ?_
  refine k_iand X0 hx (q := 21) rfl (hb hby at_20) ?_
  refine k_i2c X0 hx (q := 22) rfl (hb hby at_21) ?_
  refine k_istore X0 hx (L' := #[.val (.int x0), .val (.int x1), .val (.int x2), .val (.int x3), .val (.int (x0 &&& (255 : Int32)).toUInt32.toUInt16.toUInt32.toInt32), .val (.int (x1 &&& (255 : Int32)).toUInt32.toUInt16.toUInt32.toInt32), .val (.int (x2 &&& (255 : Int32)).toUInt32.toUInt16.toUInt32.toInt32), .unset, .unset, .unset, .unset, .unset, .unset, .unset, .unset]) (q := 24) rfl (hb hby at_22) rfl ?_
  refine k_iloadN X0 hx (q := 25) rfl (hb hby at_24) rfl ?_
  refine k_iconst X0 hx (v := (3 : Int32)) rfl (q := 26) rfl (hb hby at_25) ?_
  refine k_iand X0 hx (q := 27) rfl (hb hby at_26) ?_
  refine k_istore X0 hx (L' := #[.val (.int x0), .val (.int x1), .val (.int x2), .val (.int x3), .val (.int (x0 &&& (255 : Int32)).toUInt32.toUInt16.toUInt32.toInt32), .val (.int (x1 &&& (255 : Int32)).toUInt32.toUInt16.toUInt32.toInt32), .val (.int (x2 &&& (255 : Int32)).toUInt32.toUInt16.toUInt32.toInt32), .val (.int (x3 &&& (3 : Int32))), .unset, .unset, .unset, .unset, .unset, .unset, .unset]) (q := 29) rfl (hb hby at_27) rfl ?_
  refine k_iloadN X0 hx (q := 30) rfl (hb hby at_29) rfl ?_
  refine k_iconst X0 hx (v := (4 : Int32)) rfl (q := 31) rfl (hb hby at_30) ?_
  refine k_iand X0 hx (q := 32) rfl (hb hby at_31) ?_
  refine k_if_eq X0 hx (q1 := 39) (q := 35) (by decide) (by decide) rfl (hb hby at_32) (fun hc1 => ?_) (fun hc1 => ?_)
  · refine k_iconst X0 hx (v := (0 : Int32)) rfl (q := 40) rfl (hb hby at_39) ?_
    refine k_istore X0 hx (L' := #[.val (.int x0), .val (.int x1), .val (.int x2), .val (.int x3), .val (.int (x0 &&& (255 : Int32)).toUInt32.toUInt16.toUInt32.toInt32), .val (.int (x1 &&& (255 : Int32)).toUInt32.toUInt16.toUInt32.toInt32), .val (.int (x2 &&& (255 : Int32)).toUInt32.toUInt16.toUInt32.toInt32), .val (.int (x3 &&& (3 : Int32))), .val (.int (0 : Int32)), .unset, .unset, .unset, .unset, .unset, .unset]) (q := 42) rfl (hb hby at_40) rfl ?_
    refine k_iload X0 hx (q := 44) rfl (hb hby at_42) rfl ?_
    refine k_if_eq X0 hx (q1 := 53) (q := 47) (by decide) (by decide) rfl (hb hby at_44) (fun _ => ?_) (fun hc => absurd rfl hc)
    refine k_iload X0 hx (q := 55) rfl (hb hby at_53) rfl ?_
    refine k_if_ne X0 hx (q1 := 73) (q := 58) (by decide) (by decide) rfl (hb hby at_55) (fun hc15 => ?_) (fun hc15 => ?_)
    · refine k_iload X0 hx (q := 75) rfl (hb hby at_73) rfl ?_
      refine k_iconst X0 hx (v := (1 : Int32)) rfl (q := 76) rfl (hb hby at_75) ?_
      refine k_icmp_ne X0 hx (q1 := 99) (q := 79) (by decide) (by decide) rfl (hb hby at_76) (fun hc46 => ?_) (fun hc46 => ?_)
      · refine k_iload X0 hx (q := 101) rfl (hb hby at_99) rfl ?_
        refine k_iconst X0 hx (v := (2 : Int32)) rfl (q := 102) rfl (hb hby at_101) ?_
        refine k_icmp_ne X0 hx (q1 := 130) (q := 105) (by decide) (by decide) rfl (hb hby at_102) (fun hc82 => ?_) (fun hc82 => ?_)
        · refine k_new X0 hx hZ hown (hw _ (List.mem_of_getElem? (i := 0) rfl)) (hw _ (List.mem_of_getElem? (i := 1) rfl)) (hw _ (List.mem_of_getElem? (i := 2) rfl)) e0 (q := 133) rfl (hb hby at_130) (by decide) (by decide) ?_
          intro T122 h122 rs X122 e122 g122 E122 A122 D122
          have K122 := Keep.of_ext E122
          have F123 : Fld Z h122 rs "java/lang/String" "coder" "B" (.int (0 : Int32)) := D122 (Or.inr (hw _ (List.mem_of_getElem? (i := 27) rfl))) (ty := .byte) (by decide)
          have F124 : Fld Z h122 rs "java/lang/String" "value" "[B" .null := D122 (Or.inr (hw _ (List.mem_of_getElem? (i := 29) rfl))) (ty := (.array .byte)) (by decide)
          refine k_dup X122 hx (q := 134) rfl (hb hby at_133) rfl ?_
          refine k_iconst X122 hx (v := (3 : Int32)) rfl (q := 135) rfl (hb hby at_134) ?_
          refine k_newP X122 hx hZ (hw _ (List.mem_of_getElem? (i := 3) rfl)) e122 (q := 137) rfl (hb hby at_135) (by decide) (cap := 3) (by decide) (by decide) (by decide) (by decide) ?_
          intro T125 h125 ca k125 X125 e125 g125 E125 A125
          have K125 := Keep.of_ext E125
          have V125 : Ary Z h125 ca .char 3 (fun _ => .int (0 : Int32)) := Ary.new A125 (by decide) rfl
          refine k_dup X125 hx (q := 138) rfl (hb hby at_137) rfl ?_
          refine k_iconst X125 hx (v := (0 : Int32)) rfl (q := 139) rfl (hb hby at_138) ?_
          refine k_iload X125 hx (q := 141) rfl (hb hby at_139) rfl ?_
          have Sz127 : n0 ≤ h122.size := Nat.le_trans Z0 K122.1
          have ge_ca : n0 ≤ ca := Nat.le_trans Sz127 (Nat.le_of_eq g125.symm)
          refine k_asC X125 hx hZ e125 0 (q := 142) rfl (hb hby at_141) V125 ⟨by decide, by decide⟩ (by decide) ?_
          intro T126 h126 X126 e126 W126 V126
          have K126 := Keep.of_wr W126
          have N126 := Fr.snoc X126 N0 ge_ca
          refine k_dup X126 hx (q := 143) rfl (hb hby at_142) rfl ?_
          refine k_iconst X126 hx (v := (1 : Int32)) rfl (q := 144) rfl (hb hby at_143) ?_
          refine k_iload X126 hx (q := 146) rfl (hb hby at_144) rfl ?_
          refine k_asC X126 hx hZ e126 1 (q := 147) rfl (hb hby at_146) V126 ⟨by decide, by decide⟩ (by decide) ?_
          intro T128 h128 X128 e128 W128 V128
          have K128 := Keep.of_wr W128
          have N128 := Fr.snoc X128 N126 ge_ca
          refine k_dup X128 hx (q := 148) rfl (hb hby at_147) rfl ?_
          refine k_iconst X128 hx (v := (2 : Int32)) rfl (q := 149) rfl (hb hby at_148) ?_
          refine k_iload X128 hx (q := 151) rfl (hb hby at_149) rfl ?_
          refine k_asC X128 hx hZ e128 2 (q := 152) rfl (hb hby at_151) V128 ⟨by decide, by decide⟩ (by decide) ?_
          intro T129 h129 X129 e129 W129 V129
          have K129 := Keep.of_wr W129
          have N129 := Fr.snoc X129 N128 ge_ca
          have Vc : Ary Z h129 ca .char 3 (fun t => .int ((fun t => if t = 2 then (nar .char (x2 &&& (255 : Int32)).toUInt32.toUInt16.toUInt32.toInt32) else if t = 1 then (nar .char (x1 &&& (255 : Int32)).toUInt32.toUInt16.toUInt32.toInt32) else (nar .char (x0 &&& (255 : Int32)).toUInt32.toUInt16.toUInt32.toInt32)) t)) := V129.congr fun t ht => by
            have : t = 0 ∨ t = 1 ∨ t = 2 := by omega
            rcases this with rfl | rfl | rfl <;> rfl
          have hch : ∀ t, t < 3 → ¬ (255 : Int32) < (fun t => if t = 2 then (nar .char (x2 &&& (255 : Int32)).toUInt32.toUInt16.toUInt32.toInt32) else if t = 1 then (nar .char (x1 &&& (255 : Int32)).toUInt32.toUInt16.toUInt32.toInt32) else (nar .char (x0 &&& (255 : Int32)).toUInt32.toUInt16.toUInt32.toInt32)) t := fun t ht => by
            have : t = 0 ∨ t = 1 ∨ t = 2 := by omega
            rcases this with rfl | rfl | rfl
            · exact own_char x0
            · exact own_char x1
            · exact own_char x2
          have Od130 : Old Z n0 h122 := Old.keep O0 K122 all0
          have Od131 : Old Z n0 h125 := Old.keep Od130 K125 all0
          have Od132 : Old Z n0 h126 := Old.keep Od131 K126 (allS ge_ca all0)
          have Od133 : Old Z n0 h128 := Old.keep Od132 K128 (allS ge_ca all0)
          have Od134 : Old Z n0 h129 := Old.keep Od133 K129 (allS ge_ca all0)
          have Sz138 : n0 ≤ h125.size := Nat.le_trans Sz127 K125.1
          have Sz137 : n0 ≤ h126.size := Nat.le_trans Sz138 K126.1
          have Sz136 : n0 ≤ h128.size := Nat.le_trans Sz137 K128.1
          have Sz135 : n0 ≤ h129.size := Nat.le_trans Sz136 K129.1
          have ge_rs : n0 ≤ rs := Nat.le_trans Z0 (Nat.le_of_eq g122.symm)
          have Gu139 := ((((A122.keep K125).keep K126).keep K128).keep K129)
          have ne_rs_ca : rs ≠ ca := Nat.ne_of_lt (Nat.lt_of_lt_of_le (A122).lt (Nat.le_of_eq g125.symm))
          have Gu140 := ((((F124.keep K125 nin0).keep K126 (ninS ne_rs_ca nin0)).keep K128 (ninS ne_rs_ca nin0)).keep K129 (ninS ne_rs_ca nin0))
          have Gu141 := ((((F123.keep K125 nin0).keep K126 (ninS ne_rs_ca nin0)).keep K128 (ninS ne_rs_ca nin0)).keep K129 (ninS ne_rs_ca nin0))
          refine k_callI X129 hx hZ (y := (⟨"java/lang/String", "<init>", "([C)V"⟩ : MethodName)) hown rfl (hw _ (List.mem_of_getElem? (i := 4) rfl)) (hw _ (List.mem_of_getElem? (i := 5) rfl)) (hw _ (List.mem_of_getElem? (i := 2) rfl)) (hw _ (List.mem_of_getElem? (i := 6) rfl)) (by decide) 1 e129 (rm1 l Z a0 hw rs ca h129 n0 Sz135 3 (by decide) (by decide) (fun t => if t = 2 then (nar .char (x2 &&& (255 : Int32)).toUInt32.toUInt16.toUInt32.toInt32) else if t = 1 then (nar .char (x1 &&& (255 : Int32)).toUInt32.toUInt16.toUInt32.toInt32) else (nar .char (x0 &&& (255 : Int32)).toUInt32.toUInt16.toUInt32.toInt32)) hch (by decide) cs hcs (hS.ext Od134.2) ge_rs Gu139 Gu140 Gu141 Vc) (by decide) (by decide) (by decide) (by decide) (by rw [hml]; rfl) (a := rs) (as := [(.ref ca)]) (rest := [(.ref rs)]) pd_10 rfl (by first | exact Nat.le_refl _ | simp [Value.category]) (q := 155) rfl (hb hby at_152) ?_
          rintro _ T142 L142 X142 ⟨rfl, N142q, K142, bs, le142, G1142, G2142, V142⟩
          have N142 := Fr.app N129 N142q
          show EndG _ _ _ _ _ (T142.setTop (mkF m 155 #[.val (.int x0), .val (.int x1), .val (.int x2), .val (.int x3), .val (.int (x0 &&& (255 : Int32)).toUInt32.toUInt16.toUInt32.toInt32), .val (.int (x1 &&& (255 : Int32)).toUInt32.toUInt16.toUInt32.toInt32), .val (.int (x2 &&& (255 : Int32)).toUInt32.toUInt16.toUInt32.toInt32), .val (.int (x3 &&& (3 : Int32))), .val (.int (0 : Int32)), .unset, .unset, .unset, .unset, .unset, .unset] [(.ref rs)]))
          refine k_astore X142 hx (L' := #[.val (.int x0), .val (.int x1), .val (.int x2), .val (.int x3), .val (.int (x0 &&& (255 : Int32)).toUInt32.toUInt16.toUInt32.toInt32), .val (.int (x1 &&& (255 : Int32)).toUInt32.toUInt16.toUInt32.toInt32), .val (.int (x2 &&& (255 : Int32)).toUInt32.toUInt16.toUInt32.toInt32), .val (.int (x3 &&& (3 : Int32))), .val (.int (0 : Int32)), .val (.ref rs), .unset, .unset, .unset, .unset, .unset]) (q := 157) rfl (hb hby at_155) rfl rfl ?_
          refine k_aload X142 hx (q := 159) rfl (hb hby at_157) rfl rfl ?_
          have Od143 : Old Z n0 T142.heap := Old.keep Od134 K142 (allS ge_rs all0)
          have Sz144 : n0 ≤ T142.heap.size := Nat.le_trans Sz135 K142.1
          have Kp146 : Keep h0 h122 [] := Keep.trans (Keep.refl h0 []) K122 all0
          have Kp147 : Keep h0 h125 [] := Keep.trans Kp146 K125 all0
          have Kp148 : Keep h0 h126 [] := Keep.trans Kp147 K126 (allS (Or.inr (Nat.le_trans Kp146.1 (Nat.le_of_eq g125.symm))) all0)
          have Kp149 : Keep h0 h128 [] := Keep.trans Kp148 K128 (allS (Or.inr (Nat.le_trans Kp146.1 (Nat.le_of_eq g125.symm))) all0)
          have Kp150 : Keep h0 h129 [] := Keep.trans Kp149 K129 (allS (Or.inr (Nat.le_trans Kp146.1 (Nat.le_of_eq g125.symm))) all0)
          have Kp151 : Keep h0 T142.heap [] := Keep.trans Kp150 K142 (allS (Or.inr (Nat.le_trans (Keep.refl h0 []).1 (Nat.le_of_eq g122.symm))) all0)
          have Wd152 := Wd.keep W0 Kp151 no_safe
          refine kw_callS X142 hx hZ (y := (⟨"com/example/keyshelf/keyshelf/RuleResult", "holds", "(Ljava/lang/String;)Lcom/example/keyshelf/keyshelf/RuleResult;"⟩ : MethodName)) hown (hw _ (List.mem_of_getElem? (i := 30) rfl)) (hw _ (List.mem_of_getElem? (i := 31) rfl)) (hw _ (List.mem_of_getElem? (i := 32) rfl)) (hw _ (List.mem_of_getElem? (i := 33) rfl)) (by decide) 0 rfl Wd152 (rm7r l Z a0 hw rs T142.heap n0 Sz144 Od143 hd hH) (by decide) (by decide) (by decide) (by decide) (by rw [hml]; rfl) (as := [(.ref rs)]) (rest := []) pd_6 rfl (by first | exact Nat.le_refl _ | simp [Value.category]) (q := 162) rfl (hb hby at_159) ?_
          rintro _ T145 L145 X145 hZ hown W145 R145 ⟨rr, la, lb, g, rfl, N145q, K145, le145, Er, F1145, F2145, F3145, El, F4145, V145⟩
          have N145 := Fr.app N142 N145q
          show EndG _ _ _ _ _ (T145.setTop (mkF m 162 #[.val (.int x0), .val (.int x1), .val (.int x2), .val (.int x3), .val (.int (x0 &&& (255 : Int32)).toUInt32.toUInt16.toUInt32.toInt32), .val (.int (x1 &&& (255 : Int32)).toUInt32.toUInt16.toUInt32.toInt32), .val (.int (x2 &&& (255 : Int32)).toUInt32.toUInt16.toUInt32.toInt32), .val (.int (x3 &&& (3 : Int32))), .val (.int (0 : Int32)), .val (.ref rs), .unset, .unset, .unset, .unset, .unset] [(.ref rr)]))
          refine k_astore X145 hx (L' := #[.val (.int x0), .val (.int x1), .val (.int x2), .val (.int x3), .val (.int (x0 &&& (255 : Int32)).toUInt32.toUInt16.toUInt32.toInt32), .val (.int (x1 &&& (255 : Int32)).toUInt32.toUInt16.toUInt32.toInt32), .val (.int (x2 &&& (255 : Int32)).toUInt32.toUInt16.toUInt32.toInt32), .val (.int (x3 &&& (3 : Int32))), .val (.int (0 : Int32)), .val (.ref rs), .val (.ref rr), .unset, .unset, .unset, .unset]) (q := 164) rfl (hb hby at_162) rfl rfl ?_
          refine k_aload X145 hx (q := 166) rfl (hb hby at_164) rfl rfl ?_
          refine k_ifnonnull_y X145 hx (q := 171) (by decide) (by decide) (hb hby at_166) ?_
          refine k_aload X145 hx (q := 173) rfl (hb hby at_171) rfl rfl ?_
          refine k_ifnonnull_y X145 hx (q := 194) (by decide) (by decide) (hb hby at_173) ?_
          refine k_aload X145 hx (q := 196) rfl (hb hby at_194) rfl rfl ?_
          refine k_aload X145 hx (q := 198) rfl (hb hby at_196) rfl rfl ?_
          refine k_callV X145 hx hZ (y := (⟨"com/example/keyshelf/keyshelf/RuleResult", "rule", "()Ljava/lang/String;"⟩ : MethodName)) (z := (⟨"com/example/keyshelf/keyshelf/RuleResult", "rule", "()Ljava/lang/String;"⟩ : MethodName)) hown (hw _ (List.mem_of_getElem? (i := 57) rfl)) (hw _ (List.mem_of_getElem? (i := 58) rfl)) (notFace_of_selects (args := #[]) (mvT hZ (hw _ (List.mem_of_getElem? (i := 60) rfl)))) (hw _ (List.mem_of_getElem? (i := 60) rfl)) (hw _ (List.mem_of_getElem? (i := 59) rfl)) (hw _ (List.mem_of_getElem? (i := 61) rfl)) (hw _ (List.mem_of_getElem? (i := 32) rfl)) (by decide) Er 1 rfl (rm10 l Z a0 hw rr T145.heap n0 (.ref rs) rfl F1145) (by decide) (by decide) (by decide) (by decide) (by rw [hml]; rfl) (a := rr) (as := []) (rest := [(.ref rs)]) pd_7 rfl (by first | exact Nat.le_refl _ | simp [Value.category]) (q := 201) rfl (hb hby at_198) ?_
          rintro _ T153 L153 X153 ⟨rfl, N153q, e153⟩
          have N153 := Fr.app N145 N153q
          show EndG _ _ _ _ _ (T153.setTop (mkF m 201 #[.val (.int x0), .val (.int x1), .val (.int x2), .val (.int x3), .val (.int (x0 &&& (255 : Int32)).toUInt32.toUInt16.toUInt32.toInt32), .val (.int (x1 &&& (255 : Int32)).toUInt32.toUInt16.toUInt32.toInt32), .val (.int (x2 &&& (255 : Int32)).toUInt32.toUInt16.toUInt32.toInt32), .val (.int (x3 &&& (3 : Int32))), .val (.int (0 : Int32)), .val (.ref rs), .val (.ref rr), .unset, .unset, .unset, .unset] [(.ref rs), (.ref rs)]))
          have Gu155 := ((Gu139.keep K142).keep K145)
          refine k_callV X153 hx hZ (y := (⟨"java/lang/String", "equals", "(Ljava/lang/Object;)Z"⟩ : MethodName)) (z := (⟨"java/lang/String", "equals", "(Ljava/lang/Object;)Z"⟩ : MethodName)) hown (hw _ (List.mem_of_getElem? (i := 62) rfl)) (hw _ (List.mem_of_getElem? (i := 63) rfl)) (notFace_of_selects (args := #[]) (mvT hZ (hw _ (List.mem_of_getElem? (i := 65) rfl)))) (hw _ (List.mem_of_getElem? (i := 65) rfl)) (hw _ (List.mem_of_getElem? (i := 64) rfl)) (hw _ (List.mem_of_getElem? (i := 66) rfl)) (hw _ (List.mem_of_getElem? (i := 2) rfl)) (by decide) Gu155 0 e153 (rm11 l Z a0 hw rs rs T145.heap n0 rfl) (by decide) (by decide) (by decide) (by decide) (by rw [hml]; rfl) (a := rs) (as := [(.ref rs)]) (rest := []) pd_11 rfl (by first | exact Nat.le_refl _ | simp [Value.category]) (q := 204) rfl (hb hby at_201) ?_
          rintro _ T154 L154 X154 ⟨rfl, N154q, e154⟩
          have N154 := Fr.app N153 N154q
          show EndG _ _ _ _ _ (T154.setTop (mkF m 204 #[.val (.int x0), .val (.int x1), .val (.int x2), .val (.int x3), .val (.int (x0 &&& (255 : Int32)).toUInt32.toUInt16.toUInt32.toInt32), .val (.int (x1 &&& (255 : Int32)).toUInt32.toUInt16.toUInt32.toInt32), .val (.int (x2 &&& (255 : Int32)).toUInt32.toUInt16.toUInt32.toInt32), .val (.int (x3 &&& (3 : Int32))), .val (.int (0 : Int32)), .val (.ref rs), .val (.ref rr), .unset, .unset, .unset, .unset] [(.int (1 : Int32))]))
          refine k_istore X154 hx (L' := #[.val (.int x0), .val (.int x1), .val (.int x2), .val (.int x3), .val (.int (x0 &&& (255 : Int32)).toUInt32.toUInt16.toUInt32.toInt32), .val (.int (x1 &&& (255 : Int32)).toUInt32.toUInt16.toUInt32.toInt32), .val (.int (x2 &&& (255 : Int32)).toUInt32.toUInt16.toUInt32.toInt32), .val (.int (x3 &&& (3 : Int32))), .val (.int (0 : Int32)), .val (.ref rs), .val (.ref rr), .val (.int (1 : Int32)), .unset, .unset, .unset]) (q := 206) rfl (hb hby at_204) rfl ?_
          refine k_aload X154 hx (q := 208) rfl (hb hby at_206) rfl rfl ?_
          refine k_callV X154 hx hZ (y := (⟨"com/example/keyshelf/keyshelf/RuleResult", "outcome", "()Lcom/example/keyshelf/keyshelf/RuleResult$Outcome;"⟩ : MethodName)) (z := (⟨"com/example/keyshelf/keyshelf/RuleResult", "outcome", "()Lcom/example/keyshelf/keyshelf/RuleResult$Outcome;"⟩ : MethodName)) hown (hw _ (List.mem_of_getElem? (i := 67) rfl)) (hw _ (List.mem_of_getElem? (i := 68) rfl)) (notFace_of_selects (args := #[]) (mvT hZ (hw _ (List.mem_of_getElem? (i := 70) rfl)))) (hw _ (List.mem_of_getElem? (i := 70) rfl)) (hw _ (List.mem_of_getElem? (i := 69) rfl)) (hw _ (List.mem_of_getElem? (i := 71) rfl)) (hw _ (List.mem_of_getElem? (i := 32) rfl)) (by decide) Er 0 e154 (rm12 l Z a0 hw rr T145.heap n0 (.ref hd) rfl F2145) (by decide) (by decide) (by decide) (by decide) (by rw [hml]; rfl) (a := rr) (as := []) (rest := []) pd_8 rfl (by first | exact Nat.le_refl _ | simp [Value.category]) (q := 211) rfl (hb hby at_208) ?_
          rintro _ T156 L156 X156 ⟨rfl, N156q, e156⟩
          have N156 := Fr.app N154 N156q
          show EndG _ _ _ _ _ (T156.setTop (mkF m 211 #[.val (.int x0), .val (.int x1), .val (.int x2), .val (.int x3), .val (.int (x0 &&& (255 : Int32)).toUInt32.toUInt16.toUInt32.toInt32), .val (.int (x1 &&& (255 : Int32)).toUInt32.toUInt16.toUInt32.toInt32), .val (.int (x2 &&& (255 : Int32)).toUInt32.toUInt16.toUInt32.toInt32), .val (.int (x3 &&& (3 : Int32))), .val (.int (0 : Int32)), .val (.ref rs), .val (.ref rr), .val (.int (1 : Int32)), .unset, .unset, .unset] [(.ref hd)]))
          have Od157 : Old Z n0 T145.heap := Old.keep Od143 K145 all0
          refine k_getS X156 hx hZ (host := "") hown (Or.inl (hw _ (List.mem_of_getElem? (i := 72) rfl))) Via.refl e156 (v := (.ref hd)) (q := 214) rfl (hb hby at_211) (hH.ext Od157.2) ?_
          intro T158 X158 e158
          refine k_acmp_n X158 hx (q := 217) rfl (hb hby at_214) rfl rfl (acmp_ne_f rfl) ?_
          refine k_iconst X158 hx (v := (1 : Int32)) rfl (q := 218) rfl (hb hby at_217) ?_
          refine k_goto X158 hx (q := 222) (by decide) (by decide) (hb hby at_218) ?_
          refine k_istore X158 hx (L' := #[.val (.int x0), .val (.int x1), .val (.int x2), .val (.int x3), .val (.int (x0 &&& (255 : Int32)).toUInt32.toUInt16.toUInt32.toInt32), .val (.int (x1 &&& (255 : Int32)).toUInt32.toUInt16.toUInt32.toInt32), .val (.int (x2 &&& (255 : Int32)).toUInt32.toUInt16.toUInt32.toInt32), .val (.int (x3 &&& (3 : Int32))), .val (.int (0 : Int32)), .val (.ref rs), .val (.ref rr), .val (.int (1 : Int32)), .val (.int (1 : Int32)), .unset, .unset]) (q := 224) rfl (hb hby at_222) rfl ?_
          refine k_aload X158 hx (q := 226) rfl (hb hby at_224) rfl rfl ?_
          refine k_callV X158 hx hZ (y := (⟨"com/example/keyshelf/keyshelf/RuleResult", "reason", "()Ljava/lang/String;"⟩ : MethodName)) (z := (⟨"com/example/keyshelf/keyshelf/RuleResult", "reason", "()Ljava/lang/String;"⟩ : MethodName)) hown (hw _ (List.mem_of_getElem? (i := 73) rfl)) (hw _ (List.mem_of_getElem? (i := 74) rfl)) (notFace_of_selects (args := #[]) (mvT hZ (hw _ (List.mem_of_getElem? (i := 76) rfl)))) (hw _ (List.mem_of_getElem? (i := 76) rfl)) (hw _ (List.mem_of_getElem? (i := 75) rfl)) (hw _ (List.mem_of_getElem? (i := 77) rfl)) (hw _ (List.mem_of_getElem? (i := 32) rfl)) (by decide) Er 0 e158 (rm13 l Z a0 hw rr T145.heap n0 (.ref la) rfl F3145) (by decide) (by decide) (by decide) (by decide) (by rw [hml]; rfl) (a := rr) (as := []) (rest := []) pd_7 rfl (by first | exact Nat.le_refl _ | simp [Value.category]) (q := 229) rfl (hb hby at_226) ?_
          rintro _ T159 L159 X159 ⟨rfl, N159q, e159⟩
          have N159 := Fr.app N156 N159q
          show EndG _ _ _ _ _ (T159.setTop (mkF m 229 #[.val (.int x0), .val (.int x1), .val (.int x2), .val (.int x3), .val (.int (x0 &&& (255 : Int32)).toUInt32.toUInt16.toUInt32.toInt32), .val (.int (x1 &&& (255 : Int32)).toUInt32.toUInt16.toUInt32.toInt32), .val (.int (x2 &&& (255 : Int32)).toUInt32.toUInt16.toUInt32.toInt32), .val (.int (x3 &&& (3 : Int32))), .val (.int (0 : Int32)), .val (.ref rs), .val (.ref rr), .val (.int (1 : Int32)), .val (.int (1 : Int32)), .unset, .unset] [(.ref la)]))
          refine k_astore X159 hx (L' := #[.val (.int x0), .val (.int x1), .val (.int x2), .val (.int x3), .val (.int (x0 &&& (255 : Int32)).toUInt32.toUInt16.toUInt32.toInt32), .val (.int (x1 &&& (255 : Int32)).toUInt32.toUInt16.toUInt32.toInt32), .val (.int (x2 &&& (255 : Int32)).toUInt32.toUInt16.toUInt32.toInt32), .val (.int (x3 &&& (3 : Int32))), .val (.int (0 : Int32)), .val (.ref rs), .val (.ref rr), .val (.int (1 : Int32)), .val (.int (1 : Int32)), .val (.ref la), .unset]) (q := 231) rfl (hb hby at_229) rfl rfl ?_
          refine k_aload X159 hx (q := 233) rfl (hb hby at_231) rfl rfl ?_
          refine k_ifnull_n X159 hx (q := 236) rfl (hb hby at_233) ?_
          refine k_aload X159 hx (q := 238) rfl (hb hby at_236) rfl rfl ?_
          refine k_callV X159 hx hZ (y := (⟨"java/lang/String", "isEmpty", "()Z"⟩ : MethodName)) (z := (⟨"java/lang/String", "isEmpty", "()Z"⟩ : MethodName)) hown (hw _ (List.mem_of_getElem? (i := 78) rfl)) (hw _ (List.mem_of_getElem? (i := 79) rfl)) (notFace_of_selects (args := #[]) (mvT hZ (hw _ (List.mem_of_getElem? (i := 81) rfl)))) (hw _ (List.mem_of_getElem? (i := 81) rfl)) (hw _ (List.mem_of_getElem? (i := 80) rfl)) (hw _ (List.mem_of_getElem? (i := 82) rfl)) (hw _ (List.mem_of_getElem? (i := 2) rfl)) (by decide) El 0 e159 (rm14 l Z a0 hw la T145.heap n0 lb g F4145 V145) (by decide) (by decide) (by decide) (by decide) (by rw [hml]; rfl) (a := la) (as := []) (rest := []) pd_9 rfl (by first | exact Nat.le_refl _ | simp [Value.category]) (q := 241) rfl (hb hby at_238) ?_
          rintro _ T160 L160 X160 ⟨rfl, N160q, e160⟩
          have N160 := Fr.app N159 N160q
          show EndG _ _ _ _ _ (T160.setTop (mkF m 241 #[.val (.int x0), .val (.int x1), .val (.int x2), .val (.int x3), .val (.int (x0 &&& (255 : Int32)).toUInt32.toUInt16.toUInt32.toInt32), .val (.int (x1 &&& (255 : Int32)).toUInt32.toUInt16.toUInt32.toInt32), .val (.int (x2 &&& (255 : Int32)).toUInt32.toUInt16.toUInt32.toInt32), .val (.int (x3 &&& (3 : Int32))), .val (.int (0 : Int32)), .val (.ref rs), .val (.ref rr), .val (.int (1 : Int32)), .val (.int (1 : Int32)), .val (.ref la), .unset] [(.int (1 : Int32))]))
          refine k_if_eq X160 hx (q1 := 248) (q := 244) (by decide) (by decide) rfl (hb hby at_241) (fun hc => absurd hc (by decide)) (fun _ => ?_)
          refine k_iconst X160 hx (v := (1 : Int32)) rfl (q := 245) rfl (hb hby at_244) ?_
          refine k_goto X160 hx (q := 249) (by decide) (by decide) (hb hby at_245) ?_
          refine k_istore X160 hx (L' := #[.val (.int x0), .val (.int x1), .val (.int x2), .val (.int x3), .val (.int (x0 &&& (255 : Int32)).toUInt32.toUInt16.toUInt32.toInt32), .val (.int (x1 &&& (255 : Int32)).toUInt32.toUInt16.toUInt32.toInt32), .val (.int (x2 &&& (255 : Int32)).toUInt32.toUInt16.toUInt32.toInt32), .val (.int (x3 &&& (3 : Int32))), .val (.int (0 : Int32)), .val (.ref rs), .val (.ref rr), .val (.int (1 : Int32)), .val (.int (1 : Int32)), .val (.ref la), .val (.int (1 : Int32))]) (q := 251) rfl (hb hby at_249) rfl ?_
          refine k_iload X160 hx (q := 253) rfl (hb hby at_251) rfl ?_
          refine k_if_eq X160 hx (q1 := 270) (q := 256) (by decide) (by decide) rfl (hb hby at_253) (fun hc => absurd hc (by decide)) (fun _ => ?_)
          refine k_iload X160 hx (q := 258) rfl (hb hby at_256) rfl ?_
          refine k_if_eq X160 hx (q1 := 270) (q := 261) (by decide) (by decide) rfl (hb hby at_258) (fun hc => absurd hc (by decide)) (fun _ => ?_)
          refine k_iload X160 hx (q := 263) rfl (hb hby at_261) rfl ?_
          refine k_if_eq X160 hx (q1 := 270) (q := 266) (by decide) (by decide) rfl (hb hby at_263) (fun hc => absurd hc (by decide)) (fun _ => ?_)
          refine k_iconst X160 hx (v := (1 : Int32)) rfl (q := 267) rfl (hb hby at_266) ?_
          refine k_goto X160 hx (q := 271) (by decide) (by decide) (hb hby at_267) ?_
          exact kw_retN X160 hx (t := .boolean) (by rw [e160]; exact W145) hlk (by decide) (by decide) hret (by simp) (hb hby at_271) ⟨rfl, N160⟩
        · refine k_new X0 hx hZ hown (hw _ (List.mem_of_getElem? (i := 0) rfl)) (hw _ (List.mem_of_getElem? (i := 1) rfl)) (hw _ (List.mem_of_getElem? (i := 2) rfl)) e0 (q := 108) rfl (hb hby at_105) (by decide) (by decide) ?_
          intro T83 h83 rs X83 e83 g83 E83 A83 D83
          have K83 := Keep.of_ext E83
          have F84 : Fld Z h83 rs "java/lang/String" "coder" "B" (.int (0 : Int32)) := D83 (Or.inr (hw _ (List.mem_of_getElem? (i := 27) rfl))) (ty := .byte) (by decide)
          have F85 : Fld Z h83 rs "java/lang/String" "value" "[B" .null := D83 (Or.inr (hw _ (List.mem_of_getElem? (i := 29) rfl))) (ty := (.array .byte)) (by decide)
          refine k_dup X83 hx (q := 109) rfl (hb hby at_108) rfl ?_
          refine k_iconst X83 hx (v := (2 : Int32)) rfl (q := 110) rfl (hb hby at_109) ?_
          refine k_newP X83 hx hZ (hw _ (List.mem_of_getElem? (i := 3) rfl)) e83 (q := 112) rfl (hb hby at_110) (by decide) (cap := 2) (by decide) (by decide) (by decide) (by decide) ?_
          intro T86 h86 ca k86 X86 e86 g86 E86 A86
          have K86 := Keep.of_ext E86
          have V86 : Ary Z h86 ca .char 2 (fun _ => .int (0 : Int32)) := Ary.new A86 (by decide) rfl
          refine k_dup X86 hx (q := 113) rfl (hb hby at_112) rfl ?_
          refine k_iconst X86 hx (v := (0 : Int32)) rfl (q := 114) rfl (hb hby at_113) ?_
          refine k_iload X86 hx (q := 116) rfl (hb hby at_114) rfl ?_
          have Sz88 : n0 ≤ h83.size := Nat.le_trans Z0 K83.1
          have ge_ca : n0 ≤ ca := Nat.le_trans Sz88 (Nat.le_of_eq g86.symm)
          refine k_asC X86 hx hZ e86 0 (q := 117) rfl (hb hby at_116) V86 ⟨by decide, by decide⟩ (by decide) ?_
          intro T87 h87 X87 e87 W87 V87
          have K87 := Keep.of_wr W87
          have N87 := Fr.snoc X87 N0 ge_ca
          refine k_dup X87 hx (q := 118) rfl (hb hby at_117) rfl ?_
          refine k_iconst X87 hx (v := (1 : Int32)) rfl (q := 119) rfl (hb hby at_118) ?_
          refine k_iload X87 hx (q := 121) rfl (hb hby at_119) rfl ?_
          refine k_asC X87 hx hZ e87 1 (q := 122) rfl (hb hby at_121) V87 ⟨by decide, by decide⟩ (by decide) ?_
          intro T89 h89 X89 e89 W89 V89
          have K89 := Keep.of_wr W89
          have N89 := Fr.snoc X89 N87 ge_ca
          have Vc : Ary Z h89 ca .char 2 (fun t => .int ((fun t => if t = 1 then (nar .char (x1 &&& (255 : Int32)).toUInt32.toUInt16.toUInt32.toInt32) else (nar .char (x0 &&& (255 : Int32)).toUInt32.toUInt16.toUInt32.toInt32)) t)) := V89.congr fun t ht => by
            have : t = 0 ∨ t = 1 := by omega
            rcases this with rfl | rfl <;> rfl
          have hch : ∀ t, t < 2 → ¬ (255 : Int32) < (fun t => if t = 1 then (nar .char (x1 &&& (255 : Int32)).toUInt32.toUInt16.toUInt32.toInt32) else (nar .char (x0 &&& (255 : Int32)).toUInt32.toUInt16.toUInt32.toInt32)) t := fun t ht => by
            have : t = 0 ∨ t = 1 := by omega
            rcases this with rfl | rfl
            · exact own_char x0
            · exact own_char x1
          have Od90 : Old Z n0 h83 := Old.keep O0 K83 all0
          have Od91 : Old Z n0 h86 := Old.keep Od90 K86 all0
          have Od92 : Old Z n0 h87 := Old.keep Od91 K87 (allS ge_ca all0)
          have Od93 : Old Z n0 h89 := Old.keep Od92 K89 (allS ge_ca all0)
          have Sz96 : n0 ≤ h86.size := Nat.le_trans Sz88 K86.1
          have Sz95 : n0 ≤ h87.size := Nat.le_trans Sz96 K87.1
          have Sz94 : n0 ≤ h89.size := Nat.le_trans Sz95 K89.1
          have ge_rs : n0 ≤ rs := Nat.le_trans Z0 (Nat.le_of_eq g83.symm)
          have Gu97 := (((A83.keep K86).keep K87).keep K89)
          have ne_rs_ca : rs ≠ ca := Nat.ne_of_lt (Nat.lt_of_lt_of_le (A83).lt (Nat.le_of_eq g86.symm))
          have Gu98 := (((F85.keep K86 nin0).keep K87 (ninS ne_rs_ca nin0)).keep K89 (ninS ne_rs_ca nin0))
          have Gu99 := (((F84.keep K86 nin0).keep K87 (ninS ne_rs_ca nin0)).keep K89 (ninS ne_rs_ca nin0))
          refine k_callI X89 hx hZ (y := (⟨"java/lang/String", "<init>", "([C)V"⟩ : MethodName)) hown rfl (hw _ (List.mem_of_getElem? (i := 4) rfl)) (hw _ (List.mem_of_getElem? (i := 5) rfl)) (hw _ (List.mem_of_getElem? (i := 2) rfl)) (hw _ (List.mem_of_getElem? (i := 6) rfl)) (by decide) 1 e89 (rm1 l Z a0 hw rs ca h89 n0 Sz94 2 (by decide) (by decide) (fun t => if t = 1 then (nar .char (x1 &&& (255 : Int32)).toUInt32.toUInt16.toUInt32.toInt32) else (nar .char (x0 &&& (255 : Int32)).toUInt32.toUInt16.toUInt32.toInt32)) hch (by decide) cs hcs (hS.ext Od93.2) ge_rs Gu97 Gu98 Gu99 Vc) (by decide) (by decide) (by decide) (by decide) (by rw [hml]; rfl) (a := rs) (as := [(.ref ca)]) (rest := [(.ref rs)]) pd_10 rfl (by first | exact Nat.le_refl _ | simp [Value.category]) (q := 125) rfl (hb hby at_122) ?_
          rintro _ T100 L100 X100 ⟨rfl, N100q, K100, bs, le100, G1100, G2100, V100⟩
          have N100 := Fr.app N89 N100q
          show EndG _ _ _ _ _ (T100.setTop (mkF m 125 #[.val (.int x0), .val (.int x1), .val (.int x2), .val (.int x3), .val (.int (x0 &&& (255 : Int32)).toUInt32.toUInt16.toUInt32.toInt32), .val (.int (x1 &&& (255 : Int32)).toUInt32.toUInt16.toUInt32.toInt32), .val (.int (x2 &&& (255 : Int32)).toUInt32.toUInt16.toUInt32.toInt32), .val (.int (x3 &&& (3 : Int32))), .val (.int (0 : Int32)), .unset, .unset, .unset, .unset, .unset, .unset] [(.ref rs)]))
          refine k_astore X100 hx (L' := #[.val (.int x0), .val (.int x1), .val (.int x2), .val (.int x3), .val (.int (x0 &&& (255 : Int32)).toUInt32.toUInt16.toUInt32.toInt32), .val (.int (x1 &&& (255 : Int32)).toUInt32.toUInt16.toUInt32.toInt32), .val (.int (x2 &&& (255 : Int32)).toUInt32.toUInt16.toUInt32.toInt32), .val (.int (x3 &&& (3 : Int32))), .val (.int (0 : Int32)), .val (.ref rs), .unset, .unset, .unset, .unset, .unset]) (q := 127) rfl (hb hby at_125) rfl rfl ?_
          refine k_goto X100 hx (q := 157) (by decide) (by decide) (hb hby at_127) ?_
          refine k_aload X100 hx (q := 159) rfl (hb hby at_157) rfl rfl ?_
          have Od101 : Old Z n0 T100.heap := Old.keep Od93 K100 (allS ge_rs all0)
          have Sz102 : n0 ≤ T100.heap.size := Nat.le_trans Sz94 K100.1
          have Kp104 : Keep h0 h83 [] := Keep.trans (Keep.refl h0 []) K83 all0
          have Kp105 : Keep h0 h86 [] := Keep.trans Kp104 K86 all0
          have Kp106 : Keep h0 h87 [] := Keep.trans Kp105 K87 (allS (Or.inr (Nat.le_trans Kp104.1 (Nat.le_of_eq g86.symm))) all0)
          have Kp107 : Keep h0 h89 [] := Keep.trans Kp106 K89 (allS (Or.inr (Nat.le_trans Kp104.1 (Nat.le_of_eq g86.symm))) all0)
          have Kp108 : Keep h0 T100.heap [] := Keep.trans Kp107 K100 (allS (Or.inr (Nat.le_trans (Keep.refl h0 []).1 (Nat.le_of_eq g83.symm))) all0)
          have Wd109 := Wd.keep W0 Kp108 no_safe
          refine kw_callS X100 hx hZ (y := (⟨"com/example/keyshelf/keyshelf/RuleResult", "holds", "(Ljava/lang/String;)Lcom/example/keyshelf/keyshelf/RuleResult;"⟩ : MethodName)) hown (hw _ (List.mem_of_getElem? (i := 30) rfl)) (hw _ (List.mem_of_getElem? (i := 31) rfl)) (hw _ (List.mem_of_getElem? (i := 32) rfl)) (hw _ (List.mem_of_getElem? (i := 33) rfl)) (by decide) 0 rfl Wd109 (rm7r l Z a0 hw rs T100.heap n0 Sz102 Od101 hd hH) (by decide) (by decide) (by decide) (by decide) (by rw [hml]; rfl) (as := [(.ref rs)]) (rest := []) pd_6 rfl (by first | exact Nat.le_refl _ | simp [Value.category]) (q := 162) rfl (hb hby at_159) ?_
          rintro _ T103 L103 X103 hZ hown W103 R103 ⟨rr, la, lb, g, rfl, N103q, K103, le103, Er, F1103, F2103, F3103, El, F4103, V103⟩
          have N103 := Fr.app N100 N103q
          show EndG _ _ _ _ _ (T103.setTop (mkF m 162 #[.val (.int x0), .val (.int x1), .val (.int x2), .val (.int x3), .val (.int (x0 &&& (255 : Int32)).toUInt32.toUInt16.toUInt32.toInt32), .val (.int (x1 &&& (255 : Int32)).toUInt32.toUInt16.toUInt32.toInt32), .val (.int (x2 &&& (255 : Int32)).toUInt32.toUInt16.toUInt32.toInt32), .val (.int (x3 &&& (3 : Int32))), .val (.int (0 : Int32)), .val (.ref rs), .unset, .unset, .unset, .unset, .unset] [(.ref rr)]))
          refine k_astore X103 hx (L' := #[.val (.int x0), .val (.int x1), .val (.int x2), .val (.int x3), .val (.int (x0 &&& (255 : Int32)).toUInt32.toUInt16.toUInt32.toInt32), .val (.int (x1 &&& (255 : Int32)).toUInt32.toUInt16.toUInt32.toInt32), .val (.int (x2 &&& (255 : Int32)).toUInt32.toUInt16.toUInt32.toInt32), .val (.int (x3 &&& (3 : Int32))), .val (.int (0 : Int32)), .val (.ref rs), .val (.ref rr), .unset, .unset, .unset, .unset]) (q := 164) rfl (hb hby at_162) rfl rfl ?_
          refine k_aload X103 hx (q := 166) rfl (hb hby at_164) rfl rfl ?_
          refine k_ifnonnull_y X103 hx (q := 171) (by decide) (by decide) (hb hby at_166) ?_
          refine k_aload X103 hx (q := 173) rfl (hb hby at_171) rfl rfl ?_
          refine k_ifnonnull_y X103 hx (q := 194) (by decide) (by decide) (hb hby at_173) ?_
          refine k_aload X103 hx (q := 196) rfl (hb hby at_194) rfl rfl ?_
          refine k_aload X103 hx (q := 198) rfl (hb hby at_196) rfl rfl ?_
          refine k_callV X103 hx hZ (y := (⟨"com/example/keyshelf/keyshelf/RuleResult", "rule", "()Ljava/lang/String;"⟩ : MethodName)) (z := (⟨"com/example/keyshelf/keyshelf/RuleResult", "rule", "()Ljava/lang/String;"⟩ : MethodName)) hown (hw _ (List.mem_of_getElem? (i := 57) rfl)) (hw _ (List.mem_of_getElem? (i := 58) rfl)) (notFace_of_selects (args := #[]) (mvT hZ (hw _ (List.mem_of_getElem? (i := 60) rfl)))) (hw _ (List.mem_of_getElem? (i := 60) rfl)) (hw _ (List.mem_of_getElem? (i := 59) rfl)) (hw _ (List.mem_of_getElem? (i := 61) rfl)) (hw _ (List.mem_of_getElem? (i := 32) rfl)) (by decide) Er 1 rfl (rm10 l Z a0 hw rr T103.heap n0 (.ref rs) rfl F1103) (by decide) (by decide) (by decide) (by decide) (by rw [hml]; rfl) (a := rr) (as := []) (rest := [(.ref rs)]) pd_7 rfl (by first | exact Nat.le_refl _ | simp [Value.category]) (q := 201) rfl (hb hby at_198) ?_
          rintro _ T110 L110 X110 ⟨rfl, N110q, e110⟩
          have N110 := Fr.app N103 N110q
          show EndG _ _ _ _ _ (T110.setTop (mkF m 201 #[.val (.int x0), .val (.int x1), .val (.int x2), .val (.int x3), .val (.int (x0 &&& (255 : Int32)).toUInt32.toUInt16.toUInt32.toInt32), .val (.int (x1 &&& (255 : Int32)).toUInt32.toUInt16.toUInt32.toInt32), .val (.int (x2 &&& (255 : Int32)).toUInt32.toUInt16.toUInt32.toInt32), .val (.int (x3 &&& (3 : Int32))), .val (.int (0 : Int32)), .val (.ref rs), .val (.ref rr), .unset, .unset, .unset, .unset] [(.ref rs), (.ref rs)]))
          have Gu112 := ((Gu97.keep K100).keep K103)
          refine k_callV X110 hx hZ (y := (⟨"java/lang/String", "equals", "(Ljava/lang/Object;)Z"⟩ : MethodName)) (z := (⟨"java/lang/String", "equals", "(Ljava/lang/Object;)Z"⟩ : MethodName)) hown (hw _ (List.mem_of_getElem? (i := 62) rfl)) (hw _ (List.mem_of_getElem? (i := 63) rfl)) (notFace_of_selects (args := #[]) (mvT hZ (hw _ (List.mem_of_getElem? (i := 65) rfl)))) (hw _ (List.mem_of_getElem? (i := 65) rfl)) (hw _ (List.mem_of_getElem? (i := 64) rfl)) (hw _ (List.mem_of_getElem? (i := 66) rfl)) (hw _ (List.mem_of_getElem? (i := 2) rfl)) (by decide) Gu112 0 e110 (rm11 l Z a0 hw rs rs T103.heap n0 rfl) (by decide) (by decide) (by decide) (by decide) (by rw [hml]; rfl) (a := rs) (as := [(.ref rs)]) (rest := []) pd_11 rfl (by first | exact Nat.le_refl _ | simp [Value.category]) (q := 204) rfl (hb hby at_201) ?_
          rintro _ T111 L111 X111 ⟨rfl, N111q, e111⟩
          have N111 := Fr.app N110 N111q
          show EndG _ _ _ _ _ (T111.setTop (mkF m 204 #[.val (.int x0), .val (.int x1), .val (.int x2), .val (.int x3), .val (.int (x0 &&& (255 : Int32)).toUInt32.toUInt16.toUInt32.toInt32), .val (.int (x1 &&& (255 : Int32)).toUInt32.toUInt16.toUInt32.toInt32), .val (.int (x2 &&& (255 : Int32)).toUInt32.toUInt16.toUInt32.toInt32), .val (.int (x3 &&& (3 : Int32))), .val (.int (0 : Int32)), .val (.ref rs), .val (.ref rr), .unset, .unset, .unset, .unset] [(.int (1 : Int32))]))
          refine k_istore X111 hx (L' := #[.val (.int x0), .val (.int x1), .val (.int x2), .val (.int x3), .val (.int (x0 &&& (255 : Int32)).toUInt32.toUInt16.toUInt32.toInt32), .val (.int (x1 &&& (255 : Int32)).toUInt32.toUInt16.toUInt32.toInt32), .val (.int (x2 &&& (255 : Int32)).toUInt32.toUInt16.toUInt32.toInt32), .val (.int (x3 &&& (3 : Int32))), .val (.int (0 : Int32)), .val (.ref rs), .val (.ref rr), .val (.int (1 : Int32)), .unset, .unset, .unset]) (q := 206) rfl (hb hby at_204) rfl ?_
          refine k_aload X111 hx (q := 208) rfl (hb hby at_206) rfl rfl ?_
          refine k_callV X111 hx hZ (y := (⟨"com/example/keyshelf/keyshelf/RuleResult", "outcome", "()Lcom/example/keyshelf/keyshelf/RuleResult$Outcome;"⟩ : MethodName)) (z := (⟨"com/example/keyshelf/keyshelf/RuleResult", "outcome", "()Lcom/example/keyshelf/keyshelf/RuleResult$Outcome;"⟩ : MethodName)) hown (hw _ (List.mem_of_getElem? (i := 67) rfl)) (hw _ (List.mem_of_getElem? (i := 68) rfl)) (notFace_of_selects (args := #[]) (mvT hZ (hw _ (List.mem_of_getElem? (i := 70) rfl)))) (hw _ (List.mem_of_getElem? (i := 70) rfl)) (hw _ (List.mem_of_getElem? (i := 69) rfl)) (hw _ (List.mem_of_getElem? (i := 71) rfl)) (hw _ (List.mem_of_getElem? (i := 32) rfl)) (by decide) Er 0 e111 (rm12 l Z a0 hw rr T103.heap n0 (.ref hd) rfl F2103) (by decide) (by decide) (by decide) (by decide) (by rw [hml]; rfl) (a := rr) (as := []) (rest := []) pd_8 rfl (by first | exact Nat.le_refl _ | simp [Value.category]) (q := 211) rfl (hb hby at_208) ?_
          rintro _ T113 L113 X113 ⟨rfl, N113q, e113⟩
          have N113 := Fr.app N111 N113q
          show EndG _ _ _ _ _ (T113.setTop (mkF m 211 #[.val (.int x0), .val (.int x1), .val (.int x2), .val (.int x3), .val (.int (x0 &&& (255 : Int32)).toUInt32.toUInt16.toUInt32.toInt32), .val (.int (x1 &&& (255 : Int32)).toUInt32.toUInt16.toUInt32.toInt32), .val (.int (x2 &&& (255 : Int32)).toUInt32.toUInt16.toUInt32.toInt32), .val (.int (x3 &&& (3 : Int32))), .val (.int (0 : Int32)), .val (.ref rs), .val (.ref rr), .val (.int (1 : Int32)), .unset, .unset, .unset] [(.ref hd)]))
          have Od114 : Old Z n0 T103.heap := Old.keep Od101 K103 all0
          refine k_getS X113 hx hZ (host := "") hown (Or.inl (hw _ (List.mem_of_getElem? (i := 72) rfl))) Via.refl e113 (v := (.ref hd)) (q := 214) rfl (hb hby at_211) (hH.ext Od114.2) ?_
          intro T115 X115 e115
          refine k_acmp_n X115 hx (q := 217) rfl (hb hby at_214) rfl rfl (acmp_ne_f rfl) ?_
          refine k_iconst X115 hx (v := (1 : Int32)) rfl (q := 218) rfl (hb hby at_217) ?_
          refine k_goto X115 hx (q := 222) (by decide) (by decide) (hb hby at_218) ?_
          refine k_istore X115 hx (L' := #[.val (.int x0), .val (.int x1), .val (.int x2), .val (.int x3), .val (.int (x0 &&& (255 : Int32)).toUInt32.toUInt16.toUInt32.toInt32), .val (.int (x1 &&& (255 : Int32)).toUInt32.toUInt16.toUInt32.toInt32), .val (.int (x2 &&& (255 : Int32)).toUInt32.toUInt16.toUInt32.toInt32), .val (.int (x3 &&& (3 : Int32))), .val (.int (0 : Int32)), .val (.ref rs), .val (.ref rr), .val (.int (1 : Int32)), .val (.int (1 : Int32)), .unset, .unset]) (q := 224) rfl (hb hby at_222) rfl ?_
          refine k_aload X115 hx (q := 226) rfl (hb hby at_224) rfl rfl ?_
          refine k_callV X115 hx hZ (y := (⟨"com/example/keyshelf/keyshelf/RuleResult", "reason", "()Ljava/lang/String;"⟩ : MethodName)) (z := (⟨"com/example/keyshelf/keyshelf/RuleResult", "reason", "()Ljava/lang/String;"⟩ : MethodName)) hown (hw _ (List.mem_of_getElem? (i := 73) rfl)) (hw _ (List.mem_of_getElem? (i := 74) rfl)) (notFace_of_selects (args := #[]) (mvT hZ (hw _ (List.mem_of_getElem? (i := 76) rfl)))) (hw _ (List.mem_of_getElem? (i := 76) rfl)) (hw _ (List.mem_of_getElem? (i := 75) rfl)) (hw _ (List.mem_of_getElem? (i := 77) rfl)) (hw _ (List.mem_of_getElem? (i := 32) rfl)) (by decide) Er 0 e115 (rm13 l Z a0 hw rr T103.heap n0 (.ref la) rfl F3103) (by decide) (by decide) (by decide) (by decide) (by rw [hml]; rfl) (a := rr) (as := []) (rest := []) pd_7 rfl (by first | exact Nat.le_refl _ | simp [Value.category]) (q := 229) rfl (hb hby at_226) ?_
          rintro _ T116 L116 X116 ⟨rfl, N116q, e116⟩
          have N116 := Fr.app N113 N116q
          show EndG _ _ _ _ _ (T116.setTop (mkF m 229 #[.val (.int x0), .val (.int x1), .val (.int x2), .val (.int x3), .val (.int (x0 &&& (255 : Int32)).toUInt32.toUInt16.toUInt32.toInt32), .val (.int (x1 &&& (255 : Int32)).toUInt32.toUInt16.toUInt32.toInt32), .val (.int (x2 &&& (255 : Int32)).toUInt32.toUInt16.toUInt32.toInt32), .val (.int (x3 &&& (3 : Int32))), .val (.int (0 : Int32)), .val (.ref rs), .val (.ref rr), .val (.int (1 : Int32)), .val (.int (1 : Int32)), .unset, .unset] [(.ref la)]))
          refine k_astore X116 hx (L' := #[.val (.int x0), .val (.int x1), .val (.int x2), .val (.int x3), .val (.int (x0 &&& (255 : Int32)).toUInt32.toUInt16.toUInt32.toInt32), .val (.int (x1 &&& (255 : Int32)).toUInt32.toUInt16.toUInt32.toInt32), .val (.int (x2 &&& (255 : Int32)).toUInt32.toUInt16.toUInt32.toInt32), .val (.int (x3 &&& (3 : Int32))), .val (.int (0 : Int32)), .val (.ref rs), .val (.ref rr), .val (.int (1 : Int32)), .val (.int (1 : Int32)), .val (.ref la), .unset]) (q := 231) rfl (hb hby at_229) rfl rfl ?_
          refine k_aload X116 hx (q := 233) rfl (hb hby at_231) rfl rfl ?_
          refine k_ifnull_n X116 hx (q := 236) rfl (hb hby at_233) ?_
          refine k_aload X116 hx (q := 238) rfl (hb hby at_236) rfl rfl ?_
          refine k_callV X116 hx hZ (y := (⟨"java/lang/String", "isEmpty", "()Z"⟩ : MethodName)) (z := (⟨"java/lang/String", "isEmpty", "()Z"⟩ : MethodName)) hown (hw _ (List.mem_of_getElem? (i := 78) rfl)) (hw _ (List.mem_of_getElem? (i := 79) rfl)) (notFace_of_selects (args := #[]) (mvT hZ (hw _ (List.mem_of_getElem? (i := 81) rfl)))) (hw _ (List.mem_of_getElem? (i := 81) rfl)) (hw _ (List.mem_of_getElem? (i := 80) rfl)) (hw _ (List.mem_of_getElem? (i := 82) rfl)) (hw _ (List.mem_of_getElem? (i := 2) rfl)) (by decide) El 0 e116 (rm14 l Z a0 hw la T103.heap n0 lb g F4103 V103) (by decide) (by decide) (by decide) (by decide) (by rw [hml]; rfl) (a := la) (as := []) (rest := []) pd_9 rfl (by first | exact Nat.le_refl _ | simp [Value.category]) (q := 241) rfl (hb hby at_238) ?_
          rintro _ T117 L117 X117 ⟨rfl, N117q, e117⟩
          have N117 := Fr.app N116 N117q
          show EndG _ _ _ _ _ (T117.setTop (mkF m 241 #[.val (.int x0), .val (.int x1), .val (.int x2), .val (.int x3), .val (.int (x0 &&& (255 : Int32)).toUInt32.toUInt16.toUInt32.toInt32), .val (.int (x1 &&& (255 : Int32)).toUInt32.toUInt16.toUInt32.toInt32), .val (.int (x2 &&& (255 : Int32)).toUInt32.toUInt16.toUInt32.toInt32), .val (.int (x3 &&& (3 : Int32))), .val (.int (0 : Int32)), .val (.ref rs), .val (.ref rr), .val (.int (1 : Int32)), .val (.int (1 : Int32)), .val (.ref la), .unset] [(.int (1 : Int32))]))
          refine k_if_eq X117 hx (q1 := 248) (q := 244) (by decide) (by decide) rfl (hb hby at_241) (fun hc => absurd hc (by decide)) (fun _ => ?_)
          refine k_iconst X117 hx (v := (1 : Int32)) rfl (q := 245) rfl (hb hby at_244) ?_
          refine k_goto X117 hx (q := 249) (by decide) (by decide) (hb hby at_245) ?_
          refine k_istore X117 hx (L' := #[.val (.int x0), .val (.int x1), .val (.int x2), .val (.int x3), .val (.int (x0 &&& (255 : Int32)).toUInt32.toUInt16.toUInt32.toInt32), .val (.int (x1 &&& (255 : Int32)).toUInt32.toUInt16.toUInt32.toInt32), .val (.int (x2 &&& (255 : Int32)).toUInt32.toUInt16.toUInt32.toInt32), .val (.int (x3 &&& (3 : Int32))), .val (.int (0 : Int32)), .val (.ref rs), .val (.ref rr), .val (.int (1 : Int32)), .val (.int (1 : Int32)), .val (.ref la), .val (.int (1 : Int32))]) (q := 251) rfl (hb hby at_249) rfl ?_
          refine k_iload X117 hx (q := 253) rfl (hb hby at_251) rfl ?_
          refine k_if_eq X117 hx (q1 := 270) (q := 256) (by decide) (by decide) rfl (hb hby at_253) (fun hc => absurd hc (by decide)) (fun _ => ?_)
          refine k_iload X117 hx (q := 258) rfl (hb hby at_256) rfl ?_
          refine k_if_eq X117 hx (q1 := 270) (q := 261) (by decide) (by decide) rfl (hb hby at_258) (fun hc => absurd hc (by decide)) (fun _ => ?_)
          refine k_iload X117 hx (q := 263) rfl (hb hby at_261) rfl ?_
          refine k_if_eq X117 hx (q1 := 270) (q := 266) (by decide) (by decide) rfl (hb hby at_263) (fun hc => absurd hc (by decide)) (fun _ => ?_)
          refine k_iconst X117 hx (v := (1 : Int32)) rfl (q := 267) rfl (hb hby at_266) ?_
          refine k_goto X117 hx (q := 271) (by decide) (by decide) (hb hby at_267) ?_
          exact kw_retN X117 hx (t := .boolean) (by rw [e117]; exact W103) hlk (by decide) (by decide) hret (by simp) (hb hby at_271) ⟨rfl, N117⟩
      · refine k_new X0 hx hZ hown (hw _ (List.mem_of_getElem? (i := 0) rfl)) (hw _ (List.mem_of_getElem? (i := 1) rfl)) (hw _ (List.mem_of_getElem? (i := 2) rfl)) e0 (q := 82) rfl (hb hby at_79) (by decide) (by decide) ?_
        intro T47 h47 rs X47 e47 g47 E47 A47 D47
        have K47 := Keep.of_ext E47
        have F48 : Fld Z h47 rs "java/lang/String" "coder" "B" (.int (0 : Int32)) := D47 (Or.inr (hw _ (List.mem_of_getElem? (i := 27) rfl))) (ty := .byte) (by decide)
        have F49 : Fld Z h47 rs "java/lang/String" "value" "[B" .null := D47 (Or.inr (hw _ (List.mem_of_getElem? (i := 29) rfl))) (ty := (.array .byte)) (by decide)
        refine k_dup X47 hx (q := 83) rfl (hb hby at_82) rfl ?_
        refine k_iconst X47 hx (v := (1 : Int32)) rfl (q := 84) rfl (hb hby at_83) ?_
        refine k_newP X47 hx hZ (hw _ (List.mem_of_getElem? (i := 3) rfl)) e47 (q := 86) rfl (hb hby at_84) (by decide) (cap := 1) (by decide) (by decide) (by decide) (by decide) ?_
        intro T50 h50 ca k50 X50 e50 g50 E50 A50
        have K50 := Keep.of_ext E50
        have V50 : Ary Z h50 ca .char 1 (fun _ => .int (0 : Int32)) := Ary.new A50 (by decide) rfl
        refine k_dup X50 hx (q := 87) rfl (hb hby at_86) rfl ?_
        refine k_iconst X50 hx (v := (0 : Int32)) rfl (q := 88) rfl (hb hby at_87) ?_
        refine k_iload X50 hx (q := 90) rfl (hb hby at_88) rfl ?_
        have Sz52 : n0 ≤ h47.size := Nat.le_trans Z0 K47.1
        have ge_ca : n0 ≤ ca := Nat.le_trans Sz52 (Nat.le_of_eq g50.symm)
        refine k_asC X50 hx hZ e50 0 (q := 91) rfl (hb hby at_90) V50 ⟨by decide, by decide⟩ (by decide) ?_
        intro T51 h51 X51 e51 W51 V51
        have K51 := Keep.of_wr W51
        have N51 := Fr.snoc X51 N0 ge_ca
        have Vc : Ary Z h51 ca .char 1 (fun t => .int ((fun t => (nar .char (x0 &&& (255 : Int32)).toUInt32.toUInt16.toUInt32.toInt32)) t)) := V51.congr fun t ht => by
          have : t = 0 := by omega
          rcases this with rfl <;> rfl
        have hch : ∀ t, t < 1 → ¬ (255 : Int32) < (fun t => (nar .char (x0 &&& (255 : Int32)).toUInt32.toUInt16.toUInt32.toInt32)) t := fun t ht => by
          have : t = 0 := by omega
          rcases this with rfl
          · exact own_char x0
        have Od53 : Old Z n0 h47 := Old.keep O0 K47 all0
        have Od54 : Old Z n0 h50 := Old.keep Od53 K50 all0
        have Od55 : Old Z n0 h51 := Old.keep Od54 K51 (allS ge_ca all0)
        have Sz57 : n0 ≤ h50.size := Nat.le_trans Sz52 K50.1
        have Sz56 : n0 ≤ h51.size := Nat.le_trans Sz57 K51.1
        have ge_rs : n0 ≤ rs := Nat.le_trans Z0 (Nat.le_of_eq g47.symm)
        have Gu58 := ((A47.keep K50).keep K51)
        have ne_rs_ca : rs ≠ ca := Nat.ne_of_lt (Nat.lt_of_lt_of_le (A47).lt (Nat.le_of_eq g50.symm))
        have Gu59 := ((F49.keep K50 nin0).keep K51 (ninS ne_rs_ca nin0))
        have Gu60 := ((F48.keep K50 nin0).keep K51 (ninS ne_rs_ca nin0))
        refine k_callI X51 hx hZ (y := (⟨"java/lang/String", "<init>", "([C)V"⟩ : MethodName)) hown rfl (hw _ (List.mem_of_getElem? (i := 4) rfl)) (hw _ (List.mem_of_getElem? (i := 5) rfl)) (hw _ (List.mem_of_getElem? (i := 2) rfl)) (hw _ (List.mem_of_getElem? (i := 6) rfl)) (by decide) 1 e51 (rm1 l Z a0 hw rs ca h51 n0 Sz56 1 (by decide) (by decide) (fun t => (nar .char (x0 &&& (255 : Int32)).toUInt32.toUInt16.toUInt32.toInt32)) hch (by decide) cs hcs (hS.ext Od55.2) ge_rs Gu58 Gu59 Gu60 Vc) (by decide) (by decide) (by decide) (by decide) (by rw [hml]; rfl) (a := rs) (as := [(.ref ca)]) (rest := [(.ref rs)]) pd_10 rfl (by first | exact Nat.le_refl _ | simp [Value.category]) (q := 94) rfl (hb hby at_91) ?_
        rintro _ T61 L61 X61 ⟨rfl, N61q, K61, bs, le61, G161, G261, V61⟩
        have N61 := Fr.app N51 N61q
        show EndG _ _ _ _ _ (T61.setTop (mkF m 94 #[.val (.int x0), .val (.int x1), .val (.int x2), .val (.int x3), .val (.int (x0 &&& (255 : Int32)).toUInt32.toUInt16.toUInt32.toInt32), .val (.int (x1 &&& (255 : Int32)).toUInt32.toUInt16.toUInt32.toInt32), .val (.int (x2 &&& (255 : Int32)).toUInt32.toUInt16.toUInt32.toInt32), .val (.int (x3 &&& (3 : Int32))), .val (.int (0 : Int32)), .unset, .unset, .unset, .unset, .unset, .unset] [(.ref rs)]))
        refine k_astore X61 hx (L' := #[.val (.int x0), .val (.int x1), .val (.int x2), .val (.int x3), .val (.int (x0 &&& (255 : Int32)).toUInt32.toUInt16.toUInt32.toInt32), .val (.int (x1 &&& (255 : Int32)).toUInt32.toUInt16.toUInt32.toInt32), .val (.int (x2 &&& (255 : Int32)).toUInt32.toUInt16.toUInt32.toInt32), .val (.int (x3 &&& (3 : Int32))), .val (.int (0 : Int32)), .val (.ref rs), .unset, .unset, .unset, .unset, .unset]) (q := 96) rfl (hb hby at_94) rfl rfl ?_
        refine k_goto X61 hx (q := 157) (by decide) (by decide) (hb hby at_96) ?_
        refine k_aload X61 hx (q := 159) rfl (hb hby at_157) rfl rfl ?_
        have Od62 : Old Z n0 T61.heap := Old.keep Od55 K61 (allS ge_rs all0)
        have Sz63 : n0 ≤ T61.heap.size := Nat.le_trans Sz56 K61.1
        have Kp65 : Keep h0 h47 [] := Keep.trans (Keep.refl h0 []) K47 all0
        have Kp66 : Keep h0 h50 [] := Keep.trans Kp65 K50 all0
        have Kp67 : Keep h0 h51 [] := Keep.trans Kp66 K51 (allS (Or.inr (Nat.le_trans Kp65.1 (Nat.le_of_eq g50.symm))) all0)
        have Kp68 : Keep h0 T61.heap [] := Keep.trans Kp67 K61 (allS (Or.inr (Nat.le_trans (Keep.refl h0 []).1 (Nat.le_of_eq g47.symm))) all0)
        have Wd69 := Wd.keep W0 Kp68 no_safe
        refine kw_callS X61 hx hZ (y := (⟨"com/example/keyshelf/keyshelf/RuleResult", "holds", "(Ljava/lang/String;)Lcom/example/keyshelf/keyshelf/RuleResult;"⟩ : MethodName)) hown (hw _ (List.mem_of_getElem? (i := 30) rfl)) (hw _ (List.mem_of_getElem? (i := 31) rfl)) (hw _ (List.mem_of_getElem? (i := 32) rfl)) (hw _ (List.mem_of_getElem? (i := 33) rfl)) (by decide) 0 rfl Wd69 (rm7r l Z a0 hw rs T61.heap n0 Sz63 Od62 hd hH) (by decide) (by decide) (by decide) (by decide) (by rw [hml]; rfl) (as := [(.ref rs)]) (rest := []) pd_6 rfl (by first | exact Nat.le_refl _ | simp [Value.category]) (q := 162) rfl (hb hby at_159) ?_
        rintro _ T64 L64 X64 hZ hown W64 R64 ⟨rr, la, lb, g, rfl, N64q, K64, le64, Er, F164, F264, F364, El, F464, V64⟩
        have N64 := Fr.app N61 N64q
        show EndG _ _ _ _ _ (T64.setTop (mkF m 162 #[.val (.int x0), .val (.int x1), .val (.int x2), .val (.int x3), .val (.int (x0 &&& (255 : Int32)).toUInt32.toUInt16.toUInt32.toInt32), .val (.int (x1 &&& (255 : Int32)).toUInt32.toUInt16.toUInt32.toInt32), .val (.int (x2 &&& (255 : Int32)).toUInt32.toUInt16.toUInt32.toInt32), .val (.int (x3 &&& (3 : Int32))), .val (.int (0 : Int32)), .val (.ref rs), .unset, .unset, .unset, .unset, .unset] [(.ref rr)]))
        refine k_astore X64 hx (L' := #[.val (.int x0), .val (.int x1), .val (.int x2), .val (.int x3), .val (.int (x0 &&& (255 : Int32)).toUInt32.toUInt16.toUInt32.toInt32), .val (.int (x1 &&& (255 : Int32)).toUInt32.toUInt16.toUInt32.toInt32), .val (.int (x2 &&& (255 : Int32)).toUInt32.toUInt16.toUInt32.toInt32), .val (.int (x3 &&& (3 : Int32))), .val (.int (0 : Int32)), .val (.ref rs), .val (.ref rr), .unset, .unset, .unset, .unset]) (q := 164) rfl (hb hby at_162) rfl rfl ?_
        refine k_aload X64 hx (q := 166) rfl (hb hby at_164) rfl rfl ?_
        refine k_ifnonnull_y X64 hx (q := 171) (by decide) (by decide) (hb hby at_166) ?_
        refine k_aload X64 hx (q := 173) rfl (hb hby at_171) rfl rfl ?_
        refine k_ifnonnull_y X64 hx (q := 194) (by decide) (by decide) (hb hby at_173) ?_
        refine k_aload X64 hx (q := 196) rfl (hb hby at_194) rfl rfl ?_
        refine k_aload X64 hx (q := 198) rfl (hb hby at_196) rfl rfl ?_
        refine k_callV X64 hx hZ (y := (⟨"com/example/keyshelf/keyshelf/RuleResult", "rule", "()Ljava/lang/String;"⟩ : MethodName)) (z := (⟨"com/example/keyshelf/keyshelf/RuleResult", "rule", "()Ljava/lang/String;"⟩ : MethodName)) hown (hw _ (List.mem_of_getElem? (i := 57) rfl)) (hw _ (List.mem_of_getElem? (i := 58) rfl)) (notFace_of_selects (args := #[]) (mvT hZ (hw _ (List.mem_of_getElem? (i := 60) rfl)))) (hw _ (List.mem_of_getElem? (i := 60) rfl)) (hw _ (List.mem_of_getElem? (i := 59) rfl)) (hw _ (List.mem_of_getElem? (i := 61) rfl)) (hw _ (List.mem_of_getElem? (i := 32) rfl)) (by decide) Er 1 rfl (rm10 l Z a0 hw rr T64.heap n0 (.ref rs) rfl F164) (by decide) (by decide) (by decide) (by decide) (by rw [hml]; rfl) (a := rr) (as := []) (rest := [(.ref rs)]) pd_7 rfl (by first | exact Nat.le_refl _ | simp [Value.category]) (q := 201) rfl (hb hby at_198) ?_
        rintro _ T70 L70 X70 ⟨rfl, N70q, e70⟩
        have N70 := Fr.app N64 N70q
        show EndG _ _ _ _ _ (T70.setTop (mkF m 201 #[.val (.int x0), .val (.int x1), .val (.int x2), .val (.int x3), .val (.int (x0 &&& (255 : Int32)).toUInt32.toUInt16.toUInt32.toInt32), .val (.int (x1 &&& (255 : Int32)).toUInt32.toUInt16.toUInt32.toInt32), .val (.int (x2 &&& (255 : Int32)).toUInt32.toUInt16.toUInt32.toInt32), .val (.int (x3 &&& (3 : Int32))), .val (.int (0 : Int32)), .val (.ref rs), .val (.ref rr), .unset, .unset, .unset, .unset] [(.ref rs), (.ref rs)]))
        have Gu72 := ((Gu58.keep K61).keep K64)
        refine k_callV X70 hx hZ (y := (⟨"java/lang/String", "equals", "(Ljava/lang/Object;)Z"⟩ : MethodName)) (z := (⟨"java/lang/String", "equals", "(Ljava/lang/Object;)Z"⟩ : MethodName)) hown (hw _ (List.mem_of_getElem? (i := 62) rfl)) (hw _ (List.mem_of_getElem? (i := 63) rfl)) (notFace_of_selects (args := #[]) (mvT hZ (hw _ (List.mem_of_getElem? (i := 65) rfl)))) (hw _ (List.mem_of_getElem? (i := 65) rfl)) (hw _ (List.mem_of_getElem? (i := 64) rfl)) (hw _ (List.mem_of_getElem? (i := 66) rfl)) (hw _ (List.mem_of_getElem? (i := 2) rfl)) (by decide) Gu72 0 e70 (rm11 l Z a0 hw rs rs T64.heap n0 rfl) (by decide) (by decide) (by decide) (by decide) (by rw [hml]; rfl) (a := rs) (as := [(.ref rs)]) (rest := []) pd_11 rfl (by first | exact Nat.le_refl _ | simp [Value.category]) (q := 204) rfl (hb hby at_201) ?_
        rintro _ T71 L71 X71 ⟨rfl, N71q, e71⟩
        have N71 := Fr.app N70 N71q
        show EndG _ _ _ _ _ (T71.setTop (mkF m 204 #[.val (.int x0), .val (.int x1), .val (.int x2), .val (.int x3), .val (.int (x0 &&& (255 : Int32)).toUInt32.toUInt16.toUInt32.toInt32), .val (.int (x1 &&& (255 : Int32)).toUInt32.toUInt16.toUInt32.toInt32), .val (.int (x2 &&& (255 : Int32)).toUInt32.toUInt16.toUInt32.toInt32), .val (.int (x3 &&& (3 : Int32))), .val (.int (0 : Int32)), .val (.ref rs), .val (.ref rr), .unset, .unset, .unset, .unset] [(.int (1 : Int32))]))
        refine k_istore X71 hx (L' := #[.val (.int x0), .val (.int x1), .val (.int x2), .val (.int x3), .val (.int (x0 &&& (255 : Int32)).toUInt32.toUInt16.toUInt32.toInt32), .val (.int (x1 &&& (255 : Int32)).toUInt32.toUInt16.toUInt32.toInt32), .val (.int (x2 &&& (255 : Int32)).toUInt32.toUInt16.toUInt32.toInt32), .val (.int (x3 &&& (3 : Int32))), .val (.int (0 : Int32)), .val (.ref rs), .val (.ref rr), .val (.int (1 : Int32)), .unset, .unset, .unset]) (q := 206) rfl (hb hby at_204) rfl ?_
        refine k_aload X71 hx (q := 208) rfl (hb hby at_206) rfl rfl ?_
        refine k_callV X71 hx hZ (y := (⟨"com/example/keyshelf/keyshelf/RuleResult", "outcome", "()Lcom/example/keyshelf/keyshelf/RuleResult$Outcome;"⟩ : MethodName)) (z := (⟨"com/example/keyshelf/keyshelf/RuleResult", "outcome", "()Lcom/example/keyshelf/keyshelf/RuleResult$Outcome;"⟩ : MethodName)) hown (hw _ (List.mem_of_getElem? (i := 67) rfl)) (hw _ (List.mem_of_getElem? (i := 68) rfl)) (notFace_of_selects (args := #[]) (mvT hZ (hw _ (List.mem_of_getElem? (i := 70) rfl)))) (hw _ (List.mem_of_getElem? (i := 70) rfl)) (hw _ (List.mem_of_getElem? (i := 69) rfl)) (hw _ (List.mem_of_getElem? (i := 71) rfl)) (hw _ (List.mem_of_getElem? (i := 32) rfl)) (by decide) Er 0 e71 (rm12 l Z a0 hw rr T64.heap n0 (.ref hd) rfl F264) (by decide) (by decide) (by decide) (by decide) (by rw [hml]; rfl) (a := rr) (as := []) (rest := []) pd_8 rfl (by first | exact Nat.le_refl _ | simp [Value.category]) (q := 211) rfl (hb hby at_208) ?_
        rintro _ T73 L73 X73 ⟨rfl, N73q, e73⟩
        have N73 := Fr.app N71 N73q
        show EndG _ _ _ _ _ (T73.setTop (mkF m 211 #[.val (.int x0), .val (.int x1), .val (.int x2), .val (.int x3), .val (.int (x0 &&& (255 : Int32)).toUInt32.toUInt16.toUInt32.toInt32), .val (.int (x1 &&& (255 : Int32)).toUInt32.toUInt16.toUInt32.toInt32), .val (.int (x2 &&& (255 : Int32)).toUInt32.toUInt16.toUInt32.toInt32), .val (.int (x3 &&& (3 : Int32))), .val (.int (0 : Int32)), .val (.ref rs), .val (.ref rr), .val (.int (1 : Int32)), .unset, .unset, .unset] [(.ref hd)]))
        have Od74 : Old Z n0 T64.heap := Old.keep Od62 K64 all0
        refine k_getS X73 hx hZ (host := "") hown (Or.inl (hw _ (List.mem_of_getElem? (i := 72) rfl))) Via.refl e73 (v := (.ref hd)) (q := 214) rfl (hb hby at_211) (hH.ext Od74.2) ?_
        intro T75 X75 e75
        refine k_acmp_n X75 hx (q := 217) rfl (hb hby at_214) rfl rfl (acmp_ne_f rfl) ?_
        refine k_iconst X75 hx (v := (1 : Int32)) rfl (q := 218) rfl (hb hby at_217) ?_
        refine k_goto X75 hx (q := 222) (by decide) (by decide) (hb hby at_218) ?_
        refine k_istore X75 hx (L' := #[.val (.int x0), .val (.int x1), .val (.int x2), .val (.int x3), .val (.int (x0 &&& (255 : Int32)).toUInt32.toUInt16.toUInt32.toInt32), .val (.int (x1 &&& (255 : Int32)).toUInt32.toUInt16.toUInt32.toInt32), .val (.int (x2 &&& (255 : Int32)).toUInt32.toUInt16.toUInt32.toInt32), .val (.int (x3 &&& (3 : Int32))), .val (.int (0 : Int32)), .val (.ref rs), .val (.ref rr), .val (.int (1 : Int32)), .val (.int (1 : Int32)), .unset, .unset]) (q := 224) rfl (hb hby at_222) rfl ?_
        refine k_aload X75 hx (q := 226) rfl (hb hby at_224) rfl rfl ?_
        refine k_callV X75 hx hZ (y := (⟨"com/example/keyshelf/keyshelf/RuleResult", "reason", "()Ljava/lang/String;"⟩ : MethodName)) (z := (⟨"com/example/keyshelf/keyshelf/RuleResult", "reason", "()Ljava/lang/String;"⟩ : MethodName)) hown (hw _ (List.mem_of_getElem? (i := 73) rfl)) (hw _ (List.mem_of_getElem? (i := 74) rfl)) (notFace_of_selects (args := #[]) (mvT hZ (hw _ (List.mem_of_getElem? (i := 76) rfl)))) (hw _ (List.mem_of_getElem? (i := 76) rfl)) (hw _ (List.mem_of_getElem? (i := 75) rfl)) (hw _ (List.mem_of_getElem? (i := 77) rfl)) (hw _ (List.mem_of_getElem? (i := 32) rfl)) (by decide) Er 0 e75 (rm13 l Z a0 hw rr T64.heap n0 (.ref la) rfl F364) (by decide) (by decide) (by decide) (by decide) (by rw [hml]; rfl) (a := rr) (as := []) (rest := []) pd_7 rfl (by first | exact Nat.le_refl _ | simp [Value.category]) (q := 229) rfl (hb hby at_226) ?_
        rintro _ T76 L76 X76 ⟨rfl, N76q, e76⟩
        have N76 := Fr.app N73 N76q
        show EndG _ _ _ _ _ (T76.setTop (mkF m 229 #[.val (.int x0), .val (.int x1), .val (.int x2), .val (.int x3), .val (.int (x0 &&& (255 : Int32)).toUInt32.toUInt16.toUInt32.toInt32), .val (.int (x1 &&& (255 : Int32)).toUInt32.toUInt16.toUInt32.toInt32), .val (.int (x2 &&& (255 : Int32)).toUInt32.toUInt16.toUInt32.toInt32), .val (.int (x3 &&& (3 : Int32))), .val (.int (0 : Int32)), .val (.ref rs), .val (.ref rr), .val (.int (1 : Int32)), .val (.int (1 : Int32)), .unset, .unset] [(.ref la)]))
        refine k_astore X76 hx (L' := #[.val (.int x0), .val (.int x1), .val (.int x2), .val (.int x3), .val (.int (x0 &&& (255 : Int32)).toUInt32.toUInt16.toUInt32.toInt32), .val (.int (x1 &&& (255 : Int32)).toUInt32.toUInt16.toUInt32.toInt32), .val (.int (x2 &&& (255 : Int32)).toUInt32.toUInt16.toUInt32.toInt32), .val (.int (x3 &&& (3 : Int32))), .val (.int (0 : Int32)), .val (.ref rs), .val (.ref rr), .val (.int (1 : Int32)), .val (.int (1 : Int32)), .val (.ref la), .unset]) (q := 231) rfl (hb hby at_229) rfl rfl ?_
        refine k_aload X76 hx (q := 233) rfl (hb hby at_231) rfl rfl ?_
        refine k_ifnull_n X76 hx (q := 236) rfl (hb hby at_233) ?_
        refine k_aload X76 hx (q := 238) rfl (hb hby at_236) rfl rfl ?_
        refine k_callV X76 hx hZ (y := (⟨"java/lang/String", "isEmpty", "()Z"⟩ : MethodName)) (z := (⟨"java/lang/String", "isEmpty", "()Z"⟩ : MethodName)) hown (hw _ (List.mem_of_getElem? (i := 78) rfl)) (hw _ (List.mem_of_getElem? (i := 79) rfl)) (notFace_of_selects (args := #[]) (mvT hZ (hw _ (List.mem_of_getElem? (i := 81) rfl)))) (hw _ (List.mem_of_getElem? (i := 81) rfl)) (hw _ (List.mem_of_getElem? (i := 80) rfl)) (hw _ (List.mem_of_getElem? (i := 82) rfl)) (hw _ (List.mem_of_getElem? (i := 2) rfl)) (by decide) El 0 e76 (rm14 l Z a0 hw la T64.heap n0 lb g F464 V64) (by decide) (by decide) (by decide) (by decide) (by rw [hml]; rfl) (a := la) (as := []) (rest := []) pd_9 rfl (by first | exact Nat.le_refl _ | simp [Value.category]) (q := 241) rfl (hb hby at_238) ?_
        rintro _ T77 L77 X77 ⟨rfl, N77q, e77⟩
        have N77 := Fr.app N76 N77q
        show EndG _ _ _ _ _ (T77.setTop (mkF m 241 #[.val (.int x0), .val (.int x1), .val (.int x2), .val (.int x3), .val (.int (x0 &&& (255 : Int32)).toUInt32.toUInt16.toUInt32.toInt32), .val (.int (x1 &&& (255 : Int32)).toUInt32.toUInt16.toUInt32.toInt32), .val (.int (x2 &&& (255 : Int32)).toUInt32.toUInt16.toUInt32.toInt32), .val (.int (x3 &&& (3 : Int32))), .val (.int (0 : Int32)), .val (.ref rs), .val (.ref rr), .val (.int (1 : Int32)), .val (.int (1 : Int32)), .val (.ref la), .unset] [(.int (1 : Int32))]))
        refine k_if_eq X77 hx (q1 := 248) (q := 244) (by decide) (by decide) rfl (hb hby at_241) (fun hc => absurd hc (by decide)) (fun _ => ?_)
        refine k_iconst X77 hx (v := (1 : Int32)) rfl (q := 245) rfl (hb hby at_244) ?_
        refine k_goto X77 hx (q := 249) (by decide) (by decide) (hb hby at_245) ?_
        refine k_istore X77 hx (L' := #[.val (.int x0), .val (.int x1), .val (.int x2), .val (.int x3), .val (.int (x0 &&& (255 : Int32)).toUInt32.toUInt16.toUInt32.toInt32), .val (.int (x1 &&& (255 : Int32)).toUInt32.toUInt16.toUInt32.toInt32), .val (.int (x2 &&& (255 : Int32)).toUInt32.toUInt16.toUInt32.toInt32), .val (.int (x3 &&& (3 : Int32))), .val (.int (0 : Int32)), .val (.ref rs), .val (.ref rr), .val (.int (1 : Int32)), .val (.int (1 : Int32)), .val (.ref la), .val (.int (1 : Int32))]) (q := 251) rfl (hb hby at_249) rfl ?_
        refine k_iload X77 hx (q := 253) rfl (hb hby at_251) rfl ?_
        refine k_if_eq X77 hx (q1 := 270) (q := 256) (by decide) (by decide) rfl (hb hby at_253) (fun hc => absurd hc (by decide)) (fun _ => ?_)
        refine k_iload X77 hx (q := 258) rfl (hb hby at_256) rfl ?_
        refine k_if_eq X77 hx (q1 := 270) (q := 261) (by decide) (by decide) rfl (hb hby at_258) (fun hc => absurd hc (by decide)) (fun _ => ?_)
        refine k_iload X77 hx (q := 263) rfl (hb hby at_261) rfl ?_
        refine k_if_eq X77 hx (q1 := 270) (q := 266) (by decide) (by decide) rfl (hb hby at_263) (fun hc => absurd hc (by decide)) (fun _ => ?_)
        refine k_iconst X77 hx (v := (1 : Int32)) rfl (q := 267) rfl (hb hby at_266) ?_
        refine k_goto X77 hx (q := 271) (by decide) (by decide) (hb hby at_267) ?_
        exact kw_retN X77 hx (t := .boolean) (by rw [e77]; exact W64) hlk (by decide) (by decide) hret (by simp) (hb hby at_271) ⟨rfl, N77⟩
    · refine k_new X0 hx hZ hown (hw _ (List.mem_of_getElem? (i := 0) rfl)) (hw _ (List.mem_of_getElem? (i := 1) rfl)) (hw _ (List.mem_of_getElem? (i := 2) rfl)) e0 (q := 61) rfl (hb hby at_58) (by decide) (by decide) ?_
      intro T16 h16 rs X16 e16 g16 E16 A16 D16
      have K16 := Keep.of_ext E16
      have F17 : Fld Z h16 rs "java/lang/String" "coder" "B" (.int (0 : Int32)) := D16 (Or.inr (hw _ (List.mem_of_getElem? (i := 27) rfl))) (ty := .byte) (by decide)
      have F18 : Fld Z h16 rs "java/lang/String" "value" "[B" .null := D16 (Or.inr (hw _ (List.mem_of_getElem? (i := 29) rfl))) (ty := (.array .byte)) (by decide)
      refine k_dup X16 hx (q := 62) rfl (hb hby at_61) rfl ?_
      refine k_iconst X16 hx (v := (0 : Int32)) rfl (q := 63) rfl (hb hby at_62) ?_
      refine k_newP X16 hx hZ (hw _ (List.mem_of_getElem? (i := 3) rfl)) e16 (q := 65) rfl (hb hby at_63) (by decide) (cap := 0) (by decide) (by decide) (by decide) (by decide) ?_
      intro T19 h19 ca k19 X19 e19 g19 E19 A19
      have K19 := Keep.of_ext E19
      have V19 : Ary Z h19 ca .char 0 (fun _ => .int (0 : Int32)) := Ary.new A19 (by decide) rfl
      have Sz21 : n0 ≤ h16.size := Nat.le_trans Z0 K16.1
      have Sz20 : n0 ≤ h19.size := Nat.le_trans Sz21 K19.1
      have ge_rs : n0 ≤ rs := Nat.le_trans Z0 (Nat.le_of_eq g16.symm)
      have Gu22 := (A16.keep K19)
      have Gu23 := (F18.keep K19 nin0)
      have Gu24 := (F17.keep K19 nin0)
      have Kp26 : Keep h0 h16 [] := Keep.trans (Keep.refl h0 []) K16 all0
      have Kp27 : Keep h0 h19 [] := Keep.trans Kp26 K19 all0
      have Wd28 := Wd.keep W0 Kp27 no_safe
      refine kw_callI X19 hx hZ (y := (⟨"java/lang/String", "<init>", "([C)V"⟩ : MethodName)) (a := rs) hown rfl (hw _ (List.mem_of_getElem? (i := 4) rfl)) (hw _ (List.mem_of_getElem? (i := 5) rfl)) (hw _ (List.mem_of_getElem? (i := 2) rfl)) (hw _ (List.mem_of_getElem? (i := 6) rfl)) (by decide) 1 e19 Wd28 (rm1E l Z a0 hw rs ca h19 n0 Sz20 ge_rs Gu22 Gu23 Gu24 _ V19) (by decide) (by decide) (by decide) (by decide) (by rw [hml]; rfl) (as := [(.ref ca)]) (rest := [(.ref rs)]) pd_10 rfl (by first | exact Nat.le_refl _ | simp [Value.category]) (q := 68) rfl (hb hby at_65) ?_
      rintro _ T25 L25 X25 hZ hown W25 R25 ⟨rfl, N25q, K25⟩
      have N25 := Fr.app N0 N25q
      show EndG _ _ _ _ _ (T25.setTop (mkF m 68 #[.val (.int x0), .val (.int x1), .val (.int x2), .val (.int x3), .val (.int (x0 &&& (255 : Int32)).toUInt32.toUInt16.toUInt32.toInt32), .val (.int (x1 &&& (255 : Int32)).toUInt32.toUInt16.toUInt32.toInt32), .val (.int (x2 &&& (255 : Int32)).toUInt32.toUInt16.toUInt32.toInt32), .val (.int (x3 &&& (3 : Int32))), .val (.int (0 : Int32)), .unset, .unset, .unset, .unset, .unset, .unset] [(.ref rs)]))
      refine k_astore X25 hx (L' := #[.val (.int x0), .val (.int x1), .val (.int x2), .val (.int x3), .val (.int (x0 &&& (255 : Int32)).toUInt32.toUInt16.toUInt32.toInt32), .val (.int (x1 &&& (255 : Int32)).toUInt32.toUInt16.toUInt32.toInt32), .val (.int (x2 &&& (255 : Int32)).toUInt32.toUInt16.toUInt32.toInt32), .val (.int (x3 &&& (3 : Int32))), .val (.int (0 : Int32)), .val (.ref rs), .unset, .unset, .unset, .unset, .unset]) (q := 70) rfl (hb hby at_68) rfl rfl ?_
      refine k_goto X25 hx (q := 157) (by decide) (by decide) (hb hby at_70) ?_
      refine k_aload X25 hx (q := 159) rfl (hb hby at_157) rfl rfl ?_
      have Od29 : Old Z n0 h16 := Old.keep O0 K16 all0
      have Od30 : Old Z n0 h19 := Old.keep Od29 K19 all0
      have Od31 : Old Z n0 T25.heap := Old.keep Od30 K25 (allS ge_rs all0)
      have Sz32 : n0 ≤ T25.heap.size := Nat.le_trans Sz20 K25.1
      refine kw_callS X25 hx hZ (y := (⟨"com/example/keyshelf/keyshelf/RuleResult", "holds", "(Ljava/lang/String;)Lcom/example/keyshelf/keyshelf/RuleResult;"⟩ : MethodName)) hown (hw _ (List.mem_of_getElem? (i := 30) rfl)) (hw _ (List.mem_of_getElem? (i := 31) rfl)) (hw _ (List.mem_of_getElem? (i := 32) rfl)) (hw _ (List.mem_of_getElem? (i := 33) rfl)) (by decide) 0 rfl W25 (rm7r l Z a0 hw rs T25.heap n0 Sz32 Od31 hd hH) (by decide) (by decide) (by decide) (by decide) (by rw [hml]; rfl) (as := [(.ref rs)]) (rest := []) pd_6 rfl (by first | exact Nat.le_refl _ | simp [Value.category]) (q := 162) rfl (hb hby at_159) ?_
      rintro _ T33 L33 X33 hZ hown W33 R33 ⟨rr, la, lb, g, rfl, N33q, K33, le33, Er, F133, F233, F333, El, F433, V33⟩
      have N33 := Fr.app N25 N33q
      show EndG _ _ _ _ _ (T33.setTop (mkF m 162 #[.val (.int x0), .val (.int x1), .val (.int x2), .val (.int x3), .val (.int (x0 &&& (255 : Int32)).toUInt32.toUInt16.toUInt32.toInt32), .val (.int (x1 &&& (255 : Int32)).toUInt32.toUInt16.toUInt32.toInt32), .val (.int (x2 &&& (255 : Int32)).toUInt32.toUInt16.toUInt32.toInt32), .val (.int (x3 &&& (3 : Int32))), .val (.int (0 : Int32)), .val (.ref rs), .unset, .unset, .unset, .unset, .unset] [(.ref rr)]))
      refine k_astore X33 hx (L' := #[.val (.int x0), .val (.int x1), .val (.int x2), .val (.int x3), .val (.int (x0 &&& (255 : Int32)).toUInt32.toUInt16.toUInt32.toInt32), .val (.int (x1 &&& (255 : Int32)).toUInt32.toUInt16.toUInt32.toInt32), .val (.int (x2 &&& (255 : Int32)).toUInt32.toUInt16.toUInt32.toInt32), .val (.int (x3 &&& (3 : Int32))), .val (.int (0 : Int32)), .val (.ref rs), .val (.ref rr), .unset, .unset, .unset, .unset]) (q := 164) rfl (hb hby at_162) rfl rfl ?_
      refine k_aload X33 hx (q := 166) rfl (hb hby at_164) rfl rfl ?_
      refine k_ifnonnull_y X33 hx (q := 171) (by decide) (by decide) (hb hby at_166) ?_
      refine k_aload X33 hx (q := 173) rfl (hb hby at_171) rfl rfl ?_
      refine k_ifnonnull_y X33 hx (q := 194) (by decide) (by decide) (hb hby at_173) ?_
      refine k_aload X33 hx (q := 196) rfl (hb hby at_194) rfl rfl ?_
      refine k_aload X33 hx (q := 198) rfl (hb hby at_196) rfl rfl ?_
      refine k_callV X33 hx hZ (y := (⟨"com/example/keyshelf/keyshelf/RuleResult", "rule", "()Ljava/lang/String;"⟩ : MethodName)) (z := (⟨"com/example/keyshelf/keyshelf/RuleResult", "rule", "()Ljava/lang/String;"⟩ : MethodName)) hown (hw _ (List.mem_of_getElem? (i := 57) rfl)) (hw _ (List.mem_of_getElem? (i := 58) rfl)) (notFace_of_selects (args := #[]) (mvT hZ (hw _ (List.mem_of_getElem? (i := 60) rfl)))) (hw _ (List.mem_of_getElem? (i := 60) rfl)) (hw _ (List.mem_of_getElem? (i := 59) rfl)) (hw _ (List.mem_of_getElem? (i := 61) rfl)) (hw _ (List.mem_of_getElem? (i := 32) rfl)) (by decide) Er 1 rfl (rm10 l Z a0 hw rr T33.heap n0 (.ref rs) rfl F133) (by decide) (by decide) (by decide) (by decide) (by rw [hml]; rfl) (a := rr) (as := []) (rest := [(.ref rs)]) pd_7 rfl (by first | exact Nat.le_refl _ | simp [Value.category]) (q := 201) rfl (hb hby at_198) ?_
      rintro _ T34 L34 X34 ⟨rfl, N34q, e34⟩
      have N34 := Fr.app N33 N34q
      show EndG _ _ _ _ _ (T34.setTop (mkF m 201 #[.val (.int x0), .val (.int x1), .val (.int x2), .val (.int x3), .val (.int (x0 &&& (255 : Int32)).toUInt32.toUInt16.toUInt32.toInt32), .val (.int (x1 &&& (255 : Int32)).toUInt32.toUInt16.toUInt32.toInt32), .val (.int (x2 &&& (255 : Int32)).toUInt32.toUInt16.toUInt32.toInt32), .val (.int (x3 &&& (3 : Int32))), .val (.int (0 : Int32)), .val (.ref rs), .val (.ref rr), .unset, .unset, .unset, .unset] [(.ref rs), (.ref rs)]))
      have Gu36 := ((Gu22.keep K25).keep K33)
      refine k_callV X34 hx hZ (y := (⟨"java/lang/String", "equals", "(Ljava/lang/Object;)Z"⟩ : MethodName)) (z := (⟨"java/lang/String", "equals", "(Ljava/lang/Object;)Z"⟩ : MethodName)) hown (hw _ (List.mem_of_getElem? (i := 62) rfl)) (hw _ (List.mem_of_getElem? (i := 63) rfl)) (notFace_of_selects (args := #[]) (mvT hZ (hw _ (List.mem_of_getElem? (i := 65) rfl)))) (hw _ (List.mem_of_getElem? (i := 65) rfl)) (hw _ (List.mem_of_getElem? (i := 64) rfl)) (hw _ (List.mem_of_getElem? (i := 66) rfl)) (hw _ (List.mem_of_getElem? (i := 2) rfl)) (by decide) Gu36 0 e34 (rm11 l Z a0 hw rs rs T33.heap n0 rfl) (by decide) (by decide) (by decide) (by decide) (by rw [hml]; rfl) (a := rs) (as := [(.ref rs)]) (rest := []) pd_11 rfl (by first | exact Nat.le_refl _ | simp [Value.category]) (q := 204) rfl (hb hby at_201) ?_
      rintro _ T35 L35 X35 ⟨rfl, N35q, e35⟩
      have N35 := Fr.app N34 N35q
      show EndG _ _ _ _ _ (T35.setTop (mkF m 204 #[.val (.int x0), .val (.int x1), .val (.int x2), .val (.int x3), .val (.int (x0 &&& (255 : Int32)).toUInt32.toUInt16.toUInt32.toInt32), .val (.int (x1 &&& (255 : Int32)).toUInt32.toUInt16.toUInt32.toInt32), .val (.int (x2 &&& (255 : Int32)).toUInt32.toUInt16.toUInt32.toInt32), .val (.int (x3 &&& (3 : Int32))), .val (.int (0 : Int32)), .val (.ref rs), .val (.ref rr), .unset, .unset, .unset, .unset] [(.int (1 : Int32))]))
      refine k_istore X35 hx (L' := #[.val (.int x0), .val (.int x1), .val (.int x2), .val (.int x3), .val (.int (x0 &&& (255 : Int32)).toUInt32.toUInt16.toUInt32.toInt32), .val (.int (x1 &&& (255 : Int32)).toUInt32.toUInt16.toUInt32.toInt32), .val (.int (x2 &&& (255 : Int32)).toUInt32.toUInt16.toUInt32.toInt32), .val (.int (x3 &&& (3 : Int32))), .val (.int (0 : Int32)), .val (.ref rs), .val (.ref rr), .val (.int (1 : Int32)), .unset, .unset, .unset]) (q := 206) rfl (hb hby at_204) rfl ?_
      refine k_aload X35 hx (q := 208) rfl (hb hby at_206) rfl rfl ?_
      refine k_callV X35 hx hZ (y := (⟨"com/example/keyshelf/keyshelf/RuleResult", "outcome", "()Lcom/example/keyshelf/keyshelf/RuleResult$Outcome;"⟩ : MethodName)) (z := (⟨"com/example/keyshelf/keyshelf/RuleResult", "outcome", "()Lcom/example/keyshelf/keyshelf/RuleResult$Outcome;"⟩ : MethodName)) hown (hw _ (List.mem_of_getElem? (i := 67) rfl)) (hw _ (List.mem_of_getElem? (i := 68) rfl)) (notFace_of_selects (args := #[]) (mvT hZ (hw _ (List.mem_of_getElem? (i := 70) rfl)))) (hw _ (List.mem_of_getElem? (i := 70) rfl)) (hw _ (List.mem_of_getElem? (i := 69) rfl)) (hw _ (List.mem_of_getElem? (i := 71) rfl)) (hw _ (List.mem_of_getElem? (i := 32) rfl)) (by decide) Er 0 e35 (rm12 l Z a0 hw rr T33.heap n0 (.ref hd) rfl F233) (by decide) (by decide) (by decide) (by decide) (by rw [hml]; rfl) (a := rr) (as := []) (rest := []) pd_8 rfl (by first | exact Nat.le_refl _ | simp [Value.category]) (q := 211) rfl (hb hby at_208) ?_
      rintro _ T37 L37 X37 ⟨rfl, N37q, e37⟩
      have N37 := Fr.app N35 N37q
      show EndG _ _ _ _ _ (T37.setTop (mkF m 211 #[.val (.int x0), .val (.int x1), .val (.int x2), .val (.int x3), .val (.int (x0 &&& (255 : Int32)).toUInt32.toUInt16.toUInt32.toInt32), .val (.int (x1 &&& (255 : Int32)).toUInt32.toUInt16.toUInt32.toInt32), .val (.int (x2 &&& (255 : Int32)).toUInt32.toUInt16.toUInt32.toInt32), .val (.int (x3 &&& (3 : Int32))), .val (.int (0 : Int32)), .val (.ref rs), .val (.ref rr), .val (.int (1 : Int32)), .unset, .unset, .unset] [(.ref hd)]))
      have Od38 : Old Z n0 T33.heap := Old.keep Od31 K33 all0
      refine k_getS X37 hx hZ (host := "") hown (Or.inl (hw _ (List.mem_of_getElem? (i := 72) rfl))) Via.refl e37 (v := (.ref hd)) (q := 214) rfl (hb hby at_211) (hH.ext Od38.2) ?_
      intro T39 X39 e39
      refine k_acmp_n X39 hx (q := 217) rfl (hb hby at_214) rfl rfl (acmp_ne_f rfl) ?_
      refine k_iconst X39 hx (v := (1 : Int32)) rfl (q := 218) rfl (hb hby at_217) ?_
      refine k_goto X39 hx (q := 222) (by decide) (by decide) (hb hby at_218) ?_
      refine k_istore X39 hx (L' := #[.val (.int x0), .val (.int x1), .val (.int x2), .val (.int x3), .val (.int (x0 &&& (255 : Int32)).toUInt32.toUInt16.toUInt32.toInt32), .val (.int (x1 &&& (255 : Int32)).toUInt32.toUInt16.toUInt32.toInt32), .val (.int (x2 &&& (255 : Int32)).toUInt32.toUInt16.toUInt32.toInt32), .val (.int (x3 &&& (3 : Int32))), .val (.int (0 : Int32)), .val (.ref rs), .val (.ref rr), .val (.int (1 : Int32)), .val (.int (1 : Int32)), .unset, .unset]) (q := 224) rfl (hb hby at_222) rfl ?_
      refine k_aload X39 hx (q := 226) rfl (hb hby at_224) rfl rfl ?_
      refine k_callV X39 hx hZ (y := (⟨"com/example/keyshelf/keyshelf/RuleResult", "reason", "()Ljava/lang/String;"⟩ : MethodName)) (z := (⟨"com/example/keyshelf/keyshelf/RuleResult", "reason", "()Ljava/lang/String;"⟩ : MethodName)) hown (hw _ (List.mem_of_getElem? (i := 73) rfl)) (hw _ (List.mem_of_getElem? (i := 74) rfl)) (notFace_of_selects (args := #[]) (mvT hZ (hw _ (List.mem_of_getElem? (i := 76) rfl)))) (hw _ (List.mem_of_getElem? (i := 76) rfl)) (hw _ (List.mem_of_getElem? (i := 75) rfl)) (hw _ (List.mem_of_getElem? (i := 77) rfl)) (hw _ (List.mem_of_getElem? (i := 32) rfl)) (by decide) Er 0 e39 (rm13 l Z a0 hw rr T33.heap n0 (.ref la) rfl F333) (by decide) (by decide) (by decide) (by decide) (by rw [hml]; rfl) (a := rr) (as := []) (rest := []) pd_7 rfl (by first | exact Nat.le_refl _ | simp [Value.category]) (q := 229) rfl (hb hby at_226) ?_
      rintro _ T40 L40 X40 ⟨rfl, N40q, e40⟩
      have N40 := Fr.app N37 N40q
      show EndG _ _ _ _ _ (T40.setTop (mkF m 229 #[.val (.int x0), .val (.int x1), .val (.int x2), .val (.int x3), .val (.int (x0 &&& (255 : Int32)).toUInt32.toUInt16.toUInt32.toInt32), .val (.int (x1 &&& (255 : Int32)).toUInt32.toUInt16.toUInt32.toInt32), .val (.int (x2 &&& (255 : Int32)).toUInt32.toUInt16.toUInt32.toInt32), .val (.int (x3 &&& (3 : Int32))), .val (.int (0 : Int32)), .val (.ref rs), .val (.ref rr), .val (.int (1 : Int32)), .val (.int (1 : Int32)), .unset, .unset] [(.ref la)]))
      refine k_astore X40 hx (L' := #[.val (.int x0), .val (.int x1), .val (.int x2), .val (.int x3), .val (.int (x0 &&& (255 : Int32)).toUInt32.toUInt16.toUInt32.toInt32), .val (.int (x1 &&& (255 : Int32)).toUInt32.toUInt16.toUInt32.toInt32), .val (.int (x2 &&& (255 : Int32)).toUInt32.toUInt16.toUInt32.toInt32), .val (.int (x3 &&& (3 : Int32))), .val (.int (0 : Int32)), .val (.ref rs), .val (.ref rr), .val (.int (1 : Int32)), .val (.int (1 : Int32)), .val (.ref la), .unset]) (q := 231) rfl (hb hby at_229) rfl rfl ?_
      refine k_aload X40 hx (q := 233) rfl (hb hby at_231) rfl rfl ?_
      refine k_ifnull_n X40 hx (q := 236) rfl (hb hby at_233) ?_
      refine k_aload X40 hx (q := 238) rfl (hb hby at_236) rfl rfl ?_
      refine k_callV X40 hx hZ (y := (⟨"java/lang/String", "isEmpty", "()Z"⟩ : MethodName)) (z := (⟨"java/lang/String", "isEmpty", "()Z"⟩ : MethodName)) hown (hw _ (List.mem_of_getElem? (i := 78) rfl)) (hw _ (List.mem_of_getElem? (i := 79) rfl)) (notFace_of_selects (args := #[]) (mvT hZ (hw _ (List.mem_of_getElem? (i := 81) rfl)))) (hw _ (List.mem_of_getElem? (i := 81) rfl)) (hw _ (List.mem_of_getElem? (i := 80) rfl)) (hw _ (List.mem_of_getElem? (i := 82) rfl)) (hw _ (List.mem_of_getElem? (i := 2) rfl)) (by decide) El 0 e40 (rm14 l Z a0 hw la T33.heap n0 lb g F433 V33) (by decide) (by decide) (by decide) (by decide) (by rw [hml]; rfl) (a := la) (as := []) (rest := []) pd_9 rfl (by first | exact Nat.le_refl _ | simp [Value.category]) (q := 241) rfl (hb hby at_238) ?_
      rintro _ T41 L41 X41 ⟨rfl, N41q, e41⟩
      have N41 := Fr.app N40 N41q
      show EndG _ _ _ _ _ (T41.setTop (mkF m 241 #[.val (.int x0), .val (.int x1), .val (.int x2), .val (.int x3), .val (.int (x0 &&& (255 : Int32)).toUInt32.toUInt16.toUInt32.toInt32), .val (.int (x1 &&& (255 : Int32)).toUInt32.toUInt16.toUInt32.toInt32), .val (.int (x2 &&& (255 : Int32)).toUInt32.toUInt16.toUInt32.toInt32), .val (.int (x3 &&& (3 : Int32))), .val (.int (0 : Int32)), .val (.ref rs), .val (.ref rr), .val (.int (1 : Int32)), .val (.int (1 : Int32)), .val (.ref la), .unset] [(.int (1 : Int32))]))
      refine k_if_eq X41 hx (q1 := 248) (q := 244) (by decide) (by decide) rfl (hb hby at_241) (fun hc => absurd hc (by decide)) (fun _ => ?_)
      refine k_iconst X41 hx (v := (1 : Int32)) rfl (q := 245) rfl (hb hby at_244) ?_
      refine k_goto X41 hx (q := 249) (by decide) (by decide) (hb hby at_245) ?_
      refine k_istore X41 hx (L' := #[.val (.int x0), .val (.int x1), .val (.int x2), .val (.int x3), .val (.int (x0 &&& (255 : Int32)).toUInt32.toUInt16.toUInt32.toInt32), .val (.int (x1 &&& (255 : Int32)).toUInt32.toUInt16.toUInt32.toInt32), .val (.int (x2 &&& (255 : Int32)).toUInt32.toUInt16.toUInt32.toInt32), .val (.int (x3 &&& (3 : Int32))), .val (.int (0 : Int32)), .val (.ref rs), .val (.ref rr), .val (.int (1 : Int32)), .val (.int (1 : Int32)), .val (.ref la), .val (.int (1 : Int32))]) (q := 251) rfl (hb hby at_249) rfl ?_
      refine k_iload X41 hx (q := 253) rfl (hb hby at_251) rfl ?_
      refine k_if_eq X41 hx (q1 := 270) (q := 256) (by decide) (by decide) rfl (hb hby at_253) (fun hc => absurd hc (by decide)) (fun _ => ?_)
      refine k_iload X41 hx (q := 258) rfl (hb hby at_256) rfl ?_
      refine k_if_eq X41 hx (q1 := 270) (q := 261) (by decide) (by decide) rfl (hb hby at_258) (fun hc => absurd hc (by decide)) (fun _ => ?_)
      refine k_iload X41 hx (q := 263) rfl (hb hby at_261) rfl ?_
      refine k_if_eq X41 hx (q1 := 270) (q := 266) (by decide) (by decide) rfl (hb hby at_263) (fun hc => absurd hc (by decide)) (fun _ => ?_)
      refine k_iconst X41 hx (v := (1 : Int32)) rfl (q := 267) rfl (hb hby at_266) ?_
      refine k_goto X41 hx (q := 271) (by decide) (by decide) (hb hby at_267) ?_
      exact kw_retN X41 hx (t := .boolean) (by rw [e41]; exact W33) hlk (by decide) (by decide) hret (by simp) (hb hby at_271) ⟨rfl, N41⟩
  · refine k_iconst X0 hx (v := (1 : Int32)) rfl (q := 36) rfl (hb hby at_35) ?_
    refine k_goto X0 hx (q := 40) (by decide) (by decide) (hb hby at_36) ?_
    refine k_istore X0 hx (L' := #[.val (.int x0), .val (.int x1), .val (.int x2), .val (.int x3), .val (.int (x0 &&& (255 : Int32)).toUInt32.toUInt16.toUInt32.toInt32), .val (.int (x1 &&& (255 : Int32)).toUInt32.toUInt16.toUInt32.toInt32), .val (.int (x2 &&& (255 : Int32)).toUInt32.toUInt16.toUInt32.toInt32), .val (.int (x3 &&& (3 : Int32))), .val (.int (1 : Int32)), .unset, .unset, .unset, .unset, .unset, .unset]) (q := 42) rfl (hb hby at_40) rfl ?_
    refine k_iload X0 hx (q := 44) rfl (hb hby at_42) rfl ?_
    refine k_if_eq X0 hx (q1 := 53) (q := 47) (by decide) (by decide) rfl (hb hby at_44) (fun hc => absurd hc (by decide)) (fun _ => ?_)
    refine k_aconst_null X0 hx (q := 48) rfl (hb hby at_47) ?_
    refine k_astore X0 hx (L' := #[.val (.int x0), .val (.int x1), .val (.int x2), .val (.int x3), .val (.int (x0 &&& (255 : Int32)).toUInt32.toUInt16.toUInt32.toInt32), .val (.int (x1 &&& (255 : Int32)).toUInt32.toUInt16.toUInt32.toInt32), .val (.int (x2 &&& (255 : Int32)).toUInt32.toUInt16.toUInt32.toInt32), .val (.int (x3 &&& (3 : Int32))), .val (.int (1 : Int32)), .val .null, .unset, .unset, .unset, .unset, .unset]) (q := 50) rfl (hb hby at_48) rfl rfl ?_
    refine k_goto X0 hx (q := 157) (by decide) (by decide) (hb hby at_50) ?_
    refine k_aload X0 hx (q := 159) rfl (hb hby at_157) rfl rfl ?_
    refine kw_callS X0 hx hZ (y := (⟨"com/example/keyshelf/keyshelf/RuleResult", "holds", "(Ljava/lang/String;)Lcom/example/keyshelf/keyshelf/RuleResult;"⟩ : MethodName)) hown (hw _ (List.mem_of_getElem? (i := 30) rfl)) (hw _ (List.mem_of_getElem? (i := 31) rfl)) (hw _ (List.mem_of_getElem? (i := 32) rfl)) (hw _ (List.mem_of_getElem? (i := 33) rfl)) (by decide) 0 e0 W0 (rm7n l Z a0 hw h0 n0 Z0 O0 hd hH) (by decide) (by decide) (by decide) (by decide) (by rw [hml]; rfl) (as := [.null]) (rest := []) pd_6 rfl (by first | exact Nat.le_refl _ | simp [Value.category]) (q := 162) rfl (hb hby at_159) ?_
    rintro _ T3 L3 X3 hZ hown W3 R3 ⟨rr, la, lb, g, rfl, N3q, K3, le3, Er, F13, F23, F33, El, F43, V3⟩
    have N3 := Fr.app N0 N3q
    show EndG _ _ _ _ _ (T3.setTop (mkF m 162 #[.val (.int x0), .val (.int x1), .val (.int x2), .val (.int x3), .val (.int (x0 &&& (255 : Int32)).toUInt32.toUInt16.toUInt32.toInt32), .val (.int (x1 &&& (255 : Int32)).toUInt32.toUInt16.toUInt32.toInt32), .val (.int (x2 &&& (255 : Int32)).toUInt32.toUInt16.toUInt32.toInt32), .val (.int (x3 &&& (3 : Int32))), .val (.int (1 : Int32)), .val .null, .unset, .unset, .unset, .unset, .unset] [(.ref rr)]))
    refine k_astore X3 hx (L' := #[.val (.int x0), .val (.int x1), .val (.int x2), .val (.int x3), .val (.int (x0 &&& (255 : Int32)).toUInt32.toUInt16.toUInt32.toInt32), .val (.int (x1 &&& (255 : Int32)).toUInt32.toUInt16.toUInt32.toInt32), .val (.int (x2 &&& (255 : Int32)).toUInt32.toUInt16.toUInt32.toInt32), .val (.int (x3 &&& (3 : Int32))), .val (.int (1 : Int32)), .val .null, .val (.ref rr), .unset, .unset, .unset, .unset]) (q := 164) rfl (hb hby at_162) rfl rfl ?_
    refine k_aload X3 hx (q := 166) rfl (hb hby at_164) rfl rfl ?_
    refine k_ifnonnull_y X3 hx (q := 171) (by decide) (by decide) (hb hby at_166) ?_
    refine k_aload X3 hx (q := 173) rfl (hb hby at_171) rfl rfl ?_
    refine k_ifnonnull_n X3 hx (q := 176) rfl (hb hby at_173) ?_
    refine k_aload X3 hx (q := 178) rfl (hb hby at_176) rfl rfl ?_
    refine k_callV X3 hx hZ (y := (⟨"com/example/keyshelf/keyshelf/RuleResult", "rule", "()Ljava/lang/String;"⟩ : MethodName)) (z := (⟨"com/example/keyshelf/keyshelf/RuleResult", "rule", "()Ljava/lang/String;"⟩ : MethodName)) hown (hw _ (List.mem_of_getElem? (i := 57) rfl)) (hw _ (List.mem_of_getElem? (i := 58) rfl)) (notFace_of_selects (args := #[]) (mvT hZ (hw _ (List.mem_of_getElem? (i := 60) rfl)))) (hw _ (List.mem_of_getElem? (i := 60) rfl)) (hw _ (List.mem_of_getElem? (i := 59) rfl)) (hw _ (List.mem_of_getElem? (i := 61) rfl)) (hw _ (List.mem_of_getElem? (i := 32) rfl)) (by decide) Er 0 rfl (rm10 l Z a0 hw rr T3.heap n0 .null rfl F13) (by decide) (by decide) (by decide) (by decide) (by rw [hml]; rfl) (a := rr) (as := []) (rest := []) pd_7 rfl (by first | exact Nat.le_refl _ | simp [Value.category]) (q := 181) rfl (hb hby at_178) ?_
    rintro _ T4 L4 X4 ⟨rfl, N4q, e4⟩
    have N4 := Fr.app N3 N4q
    show EndG _ _ _ _ _ (T4.setTop (mkF m 181 #[.val (.int x0), .val (.int x1), .val (.int x2), .val (.int x3), .val (.int (x0 &&& (255 : Int32)).toUInt32.toUInt16.toUInt32.toInt32), .val (.int (x1 &&& (255 : Int32)).toUInt32.toUInt16.toUInt32.toInt32), .val (.int (x2 &&& (255 : Int32)).toUInt32.toUInt16.toUInt32.toInt32), .val (.int (x3 &&& (3 : Int32))), .val (.int (1 : Int32)), .val .null, .val (.ref rr), .unset, .unset, .unset, .unset] [.null]))
    refine k_ifnonnull_n X4 hx (q := 184) rfl (hb hby at_181) ?_
    refine k_iconst X4 hx (v := (1 : Int32)) rfl (q := 185) rfl (hb hby at_184) ?_
    refine k_goto X4 hx (q := 189) (by decide) (by decide) (hb hby at_185) ?_
    refine k_istore X4 hx (L' := #[.val (.int x0), .val (.int x1), .val (.int x2), .val (.int x3), .val (.int (x0 &&& (255 : Int32)).toUInt32.toUInt16.toUInt32.toInt32), .val (.int (x1 &&& (255 : Int32)).toUInt32.toUInt16.toUInt32.toInt32), .val (.int (x2 &&& (255 : Int32)).toUInt32.toUInt16.toUInt32.toInt32), .val (.int (x3 &&& (3 : Int32))), .val (.int (1 : Int32)), .val .null, .val (.ref rr), .val (.int (1 : Int32)), .unset, .unset, .unset]) (q := 191) rfl (hb hby at_189) rfl ?_
    refine k_goto X4 hx (q := 206) (by decide) (by decide) (hb hby at_191) ?_
    refine k_aload X4 hx (q := 208) rfl (hb hby at_206) rfl rfl ?_
    refine k_callV X4 hx hZ (y := (⟨"com/example/keyshelf/keyshelf/RuleResult", "outcome", "()Lcom/example/keyshelf/keyshelf/RuleResult$Outcome;"⟩ : MethodName)) (z := (⟨"com/example/keyshelf/keyshelf/RuleResult", "outcome", "()Lcom/example/keyshelf/keyshelf/RuleResult$Outcome;"⟩ : MethodName)) hown (hw _ (List.mem_of_getElem? (i := 67) rfl)) (hw _ (List.mem_of_getElem? (i := 68) rfl)) (notFace_of_selects (args := #[]) (mvT hZ (hw _ (List.mem_of_getElem? (i := 70) rfl)))) (hw _ (List.mem_of_getElem? (i := 70) rfl)) (hw _ (List.mem_of_getElem? (i := 69) rfl)) (hw _ (List.mem_of_getElem? (i := 71) rfl)) (hw _ (List.mem_of_getElem? (i := 32) rfl)) (by decide) Er 0 e4 (rm12 l Z a0 hw rr T3.heap n0 (.ref hd) rfl F23) (by decide) (by decide) (by decide) (by decide) (by rw [hml]; rfl) (a := rr) (as := []) (rest := []) pd_8 rfl (by first | exact Nat.le_refl _ | simp [Value.category]) (q := 211) rfl (hb hby at_208) ?_
    rintro _ T5 L5 X5 ⟨rfl, N5q, e5⟩
    have N5 := Fr.app N4 N5q
    show EndG _ _ _ _ _ (T5.setTop (mkF m 211 #[.val (.int x0), .val (.int x1), .val (.int x2), .val (.int x3), .val (.int (x0 &&& (255 : Int32)).toUInt32.toUInt16.toUInt32.toInt32), .val (.int (x1 &&& (255 : Int32)).toUInt32.toUInt16.toUInt32.toInt32), .val (.int (x2 &&& (255 : Int32)).toUInt32.toUInt16.toUInt32.toInt32), .val (.int (x3 &&& (3 : Int32))), .val (.int (1 : Int32)), .val .null, .val (.ref rr), .val (.int (1 : Int32)), .unset, .unset, .unset] [(.ref hd)]))
    have Od6 : Old Z n0 T3.heap := Old.keep O0 K3 all0
    refine k_getS X5 hx hZ (host := "") hown (Or.inl (hw _ (List.mem_of_getElem? (i := 72) rfl))) Via.refl e5 (v := (.ref hd)) (q := 214) rfl (hb hby at_211) (hH.ext Od6.2) ?_
    intro T7 X7 e7
    refine k_acmp_n X7 hx (q := 217) rfl (hb hby at_214) rfl rfl (acmp_ne_f rfl) ?_
    refine k_iconst X7 hx (v := (1 : Int32)) rfl (q := 218) rfl (hb hby at_217) ?_
    refine k_goto X7 hx (q := 222) (by decide) (by decide) (hb hby at_218) ?_
    refine k_istore X7 hx (L' := #[.val (.int x0), .val (.int x1), .val (.int x2), .val (.int x3), .val (.int (x0 &&& (255 : Int32)).toUInt32.toUInt16.toUInt32.toInt32), .val (.int (x1 &&& (255 : Int32)).toUInt32.toUInt16.toUInt32.toInt32), .val (.int (x2 &&& (255 : Int32)).toUInt32.toUInt16.toUInt32.toInt32), .val (.int (x3 &&& (3 : Int32))), .val (.int (1 : Int32)), .val .null, .val (.ref rr), .val (.int (1 : Int32)), .val (.int (1 : Int32)), .unset, .unset]) (q := 224) rfl (hb hby at_222) rfl ?_
    refine k_aload X7 hx (q := 226) rfl (hb hby at_224) rfl rfl ?_
    refine k_callV X7 hx hZ (y := (⟨"com/example/keyshelf/keyshelf/RuleResult", "reason", "()Ljava/lang/String;"⟩ : MethodName)) (z := (⟨"com/example/keyshelf/keyshelf/RuleResult", "reason", "()Ljava/lang/String;"⟩ : MethodName)) hown (hw _ (List.mem_of_getElem? (i := 73) rfl)) (hw _ (List.mem_of_getElem? (i := 74) rfl)) (notFace_of_selects (args := #[]) (mvT hZ (hw _ (List.mem_of_getElem? (i := 76) rfl)))) (hw _ (List.mem_of_getElem? (i := 76) rfl)) (hw _ (List.mem_of_getElem? (i := 75) rfl)) (hw _ (List.mem_of_getElem? (i := 77) rfl)) (hw _ (List.mem_of_getElem? (i := 32) rfl)) (by decide) Er 0 e7 (rm13 l Z a0 hw rr T3.heap n0 (.ref la) rfl F33) (by decide) (by decide) (by decide) (by decide) (by rw [hml]; rfl) (a := rr) (as := []) (rest := []) pd_7 rfl (by first | exact Nat.le_refl _ | simp [Value.category]) (q := 229) rfl (hb hby at_226) ?_
    rintro _ T8 L8 X8 ⟨rfl, N8q, e8⟩
    have N8 := Fr.app N5 N8q
    show EndG _ _ _ _ _ (T8.setTop (mkF m 229 #[.val (.int x0), .val (.int x1), .val (.int x2), .val (.int x3), .val (.int (x0 &&& (255 : Int32)).toUInt32.toUInt16.toUInt32.toInt32), .val (.int (x1 &&& (255 : Int32)).toUInt32.toUInt16.toUInt32.toInt32), .val (.int (x2 &&& (255 : Int32)).toUInt32.toUInt16.toUInt32.toInt32), .val (.int (x3 &&& (3 : Int32))), .val (.int (1 : Int32)), .val .null, .val (.ref rr), .val (.int (1 : Int32)), .val (.int (1 : Int32)), .unset, .unset] [(.ref la)]))
    refine k_astore X8 hx (L' := #[.val (.int x0), .val (.int x1), .val (.int x2), .val (.int x3), .val (.int (x0 &&& (255 : Int32)).toUInt32.toUInt16.toUInt32.toInt32), .val (.int (x1 &&& (255 : Int32)).toUInt32.toUInt16.toUInt32.toInt32), .val (.int (x2 &&& (255 : Int32)).toUInt32.toUInt16.toUInt32.toInt32), .val (.int (x3 &&& (3 : Int32))), .val (.int (1 : Int32)), .val .null, .val (.ref rr), .val (.int (1 : Int32)), .val (.int (1 : Int32)), .val (.ref la), .unset]) (q := 231) rfl (hb hby at_229) rfl rfl ?_
    refine k_aload X8 hx (q := 233) rfl (hb hby at_231) rfl rfl ?_
    refine k_ifnull_n X8 hx (q := 236) rfl (hb hby at_233) ?_
    refine k_aload X8 hx (q := 238) rfl (hb hby at_236) rfl rfl ?_
    refine k_callV X8 hx hZ (y := (⟨"java/lang/String", "isEmpty", "()Z"⟩ : MethodName)) (z := (⟨"java/lang/String", "isEmpty", "()Z"⟩ : MethodName)) hown (hw _ (List.mem_of_getElem? (i := 78) rfl)) (hw _ (List.mem_of_getElem? (i := 79) rfl)) (notFace_of_selects (args := #[]) (mvT hZ (hw _ (List.mem_of_getElem? (i := 81) rfl)))) (hw _ (List.mem_of_getElem? (i := 81) rfl)) (hw _ (List.mem_of_getElem? (i := 80) rfl)) (hw _ (List.mem_of_getElem? (i := 82) rfl)) (hw _ (List.mem_of_getElem? (i := 2) rfl)) (by decide) El 0 e8 (rm14 l Z a0 hw la T3.heap n0 lb g F43 V3) (by decide) (by decide) (by decide) (by decide) (by rw [hml]; rfl) (a := la) (as := []) (rest := []) pd_9 rfl (by first | exact Nat.le_refl _ | simp [Value.category]) (q := 241) rfl (hb hby at_238) ?_
    rintro _ T9 L9 X9 ⟨rfl, N9q, e9⟩
    have N9 := Fr.app N8 N9q
    show EndG _ _ _ _ _ (T9.setTop (mkF m 241 #[.val (.int x0), .val (.int x1), .val (.int x2), .val (.int x3), .val (.int (x0 &&& (255 : Int32)).toUInt32.toUInt16.toUInt32.toInt32), .val (.int (x1 &&& (255 : Int32)).toUInt32.toUInt16.toUInt32.toInt32), .val (.int (x2 &&& (255 : Int32)).toUInt32.toUInt16.toUInt32.toInt32), .val (.int (x3 &&& (3 : Int32))), .val (.int (1 : Int32)), .val .null, .val (.ref rr), .val (.int (1 : Int32)), .val (.int (1 : Int32)), .val (.ref la), .unset] [(.int (1 : Int32))]))
    refine k_if_eq X9 hx (q1 := 248) (q := 244) (by decide) (by decide) rfl (hb hby at_241) (fun hc => absurd hc (by decide)) (fun _ => ?_)
    refine k_iconst X9 hx (v := (1 : Int32)) rfl (q := 245) rfl (hb hby at_244) ?_
    refine k_goto X9 hx (q := 249) (by decide) (by decide) (hb hby at_245) ?_
    refine k_istore X9 hx (L' := #[.val (.int x0), .val (.int x1), .val (.int x2), .val (.int x3), .val (.int (x0 &&& (255 : Int32)).toUInt32.toUInt16.toUInt32.toInt32), .val (.int (x1 &&& (255 : Int32)).toUInt32.toUInt16.toUInt32.toInt32), .val (.int (x2 &&& (255 : Int32)).toUInt32.toUInt16.toUInt32.toInt32), .val (.int (x3 &&& (3 : Int32))), .val (.int (1 : Int32)), .val .null, .val (.ref rr), .val (.int (1 : Int32)), .val (.int (1 : Int32)), .val (.ref la), .val (.int (1 : Int32))]) (q := 251) rfl (hb hby at_249) rfl ?_
    refine k_iload X9 hx (q := 253) rfl (hb hby at_251) rfl ?_
    refine k_if_eq X9 hx (q1 := 270) (q := 256) (by decide) (by decide) rfl (hb hby at_253) (fun hc => absurd hc (by decide)) (fun _ => ?_)
    refine k_iload X9 hx (q := 258) rfl (hb hby at_256) rfl ?_
    refine k_if_eq X9 hx (q1 := 270) (q := 261) (by decide) (by decide) rfl (hb hby at_258) (fun hc => absurd hc (by decide)) (fun _ => ?_)
    refine k_iload X9 hx (q := 263) rfl (hb hby at_261) rfl ?_
    refine k_if_eq X9 hx (q1 := 270) (q := 266) (by decide) (by decide) rfl (hb hby at_263) (fun hc => absurd hc (by decide)) (fun _ => ?_)
    refine k_iconst X9 hx (v := (1 : Int32)) rfl (q := 267) rfl (hb hby at_266) ?_
    refine k_goto X9 hx (q := 271) (by decide) (by decide) (hb hby at_267) ?_
    exact kw_retN X9 hx (t := .boolean) (by rw [e9]; exact W3) hlk (by decide) (by decide) hret (by simp) (hb hby at_271) ⟨rfl, N9⟩
set_option maxRecDepth 65536 in
set_option maxHeartbeats 40000000 in
theorem comes_1 {Post : Tables → Env → Array Value → State → Outcome → State → Prop} (hpost : ∀ tb e args s v u, (limb_1_1.after args s (.returned v) u = true ∧ limb_1_2.after args s (.returned v) u = true ∧ True) → ReturnedEndW s (.returned v) u (Jvm.fieldLocs frame_1_writes args s ++ Jvm.arrayLocs frame_1_arrays args s ++ Jvm.staticLocs frame_1_statics s) 24 2176 → Post tb e args s (.returned v) u) :
    ArmFor flags0 classFile x code maxLocals ret World_1 tables_1 room_1 Calls_1 rest_1 Pre_1 Post := by
  intro l hfl _ _ p e ha hc hk s m args below hf hA hF happ hP
  obtain ⟨hcalls, hrest, hpre⟩ := hP
  obtain ⟨-, -, -, hnamed, -, -, -, hat⟩ := (Spec.applies_iff hf).mp happ
  obtain ⟨hg, hn⟩ := and_e (Cond.before_iff.mp (show (Jvm.Cond.and given_1 narrow_1).before args s = true from hpre))
  obtain ⟨gc, g0⟩ := and_e hg
  obtain ⟨a0, g1⟩ := and_e g0
  obtain ⟨a1, g2⟩ := and_e g1
  obtain ⟨a2, g3⟩ := and_e g2
  obtain ⟨w0, w1, w2, w3, rfl⟩ : ∃ w0 w1 w2 w3 : Value, args = #[w0, w1, w2, w3] := by
    have hs : args.size = 4 := by simpa [Cond.value, given_1] using gc
    obtain ⟨L⟩ := args
    match L, hs with
    | [w0, w1, w2, w3], _ => exact ⟨w0, w1, w2, w3, rfl⟩
  have hw := fun d (hd : d ∈ tables_1) => atoms_spec (ws := Jvm.Cond.code x code maxLocals ret :: tables_1) hat d (List.mem_cons_of_mem _ hd)
  have hfit : Fit s := fun {y c} hc i hi => by
    obtain ⟨ha, rfl⟩ := Array.getElem?_eq_some_iff.mp hc
    have q := List.all_eq_true.mp ((Array.all_eq_true_iff_forall_mem.mp hF) _ (Array.getElem_mem ha)) i (List.mem_range.mpr hi)
    simpa [Array.getElem?_eq_getElem hi] using q
  obtain ⟨i0, ei0⟩ := is_v a0
  obtain rfl : w0 = (.int i0) := Option.some.inj ei0
  obtain ⟨i1, ei1⟩ := is_v a1
  obtain rfl : w1 = (.int i1) := Option.some.inj ei1
  obtain ⟨i2, ei2⟩ := is_v a2
  obtain rfl : w2 = (.int i2) := Option.some.inj ei2
  obtain ⟨i3, ei3⟩ := is_v g3
  obtain rfl : w3 = (.int i3) := Option.some.inj ei3
  obtain ⟨hsets, -⟩ := atoms_of _ (rest_1_c_eq ▸ (show rest_1_c.before _ s = true from hrest))
  obtain ⟨cs, ecs⟩ := is_v (Cond.before_iff.mp (hsets _ (List.mem_of_getElem? (i := 1) rfl)))
  have hS : Sta s s.heap "java/lang/String" "COMPACT_STRINGS" "Z" (.int cs) := Sta.start ecs (Or.inl (hsets _ (List.mem_of_getElem? (i := 0) rfl)))
  have n5 := not_v (Cond.before_iff.mp (hsets _ (List.mem_of_getElem? (i := 2) rfl)))
  have hcs : ¬ (cs = (0 : Int32)) := gotF (Cond.eq_ints ecs (Term.int_eval (0))) n5
  have hcw := hsets _ (List.mem_of_getElem? (i := 2) rfl)
  have hCH : CHv s consts_1 s.vm s.heap := CHv.start (own_EL hw) (fun p hp => hcalls.1 p hp) hcw (hw _ (List.mem_of_getElem? (i := 19) rfl)) (hw _ (List.mem_of_getElem? (i := 1) rfl))
  have hn := show narrow_1.value _ s none s [] = some true from hn
  unfold narrow_1 at hn
  obtain ⟨hd, vhd⟩ := exa_v hn
  have hH := Sta.start vhd (Or.inr ⟨(hw _ (List.mem_of_getElem? (i := 37) rfl)), (hw _ (List.mem_of_getElem? (i := 38) rfl))⟩)
  obtain ⟨n, o, h1, h2, h3, _, L, rfl, ⟨rfl, N⟩, -, hq⟩ := rmL l s _ hw i0 i1 i2 i3 s.heap s.heap.size (Nat.le_refl _) (Old.start s) hd hH cs hcs hS p e ha hc hk s m _ below hf ((Spec.applies_iff_loose hf).mp happ).1 ⟨rfl, State.Warmed39.refl s, rfl, hCH⟩ trivial
  refine ⟨n, _, h1, h2, h3, hpost _ _ _ _ _ _ ⟨Cond.after_iff.mpr rfl, Cond.after_iff.mpr (eq_i res_at (Term.int_eval (1)) rfl), trivial⟩ ⟨hq.1, hq.2.1, hq.2.2.1, (hq.2.2.2.sift fun y hy => Or.inr (N y hy)).mono (by decide) (by decide)⟩⟩
theorem main_1_1 : Claimed_1_1 := comes_1 fun _ _ _ _ _ _ h hF => ⟨h.1, hF⟩
theorem main_1_2 : Claimed_1_2 := comes_1 fun _ _ _ _ _ _ h hF => ⟨h.2.1, hF⟩
end Jvm.Pilot.@@N@@
namespace Jvm.Pilot.@@N@@
open Jvm Jvm.ClassFile Sem Op Lib Jvm.Free Jvm.Stand Jvm.Pilot.@@N@@.Jvm.D
/-! MADE BY PROGRAM (witnessworld.py) out of the Statement's table words and the real class files: 23 classes; the members and pool entries that the words name. The judged class is class 1, her method 1. -/
namespace start1
open Jvm.ClassFile
def u (s : String) : CpInfo := .utf8 (stringToUtf16 s)
/-- a pool by its gaps: so many unusable entries, then the entry; so many at the end -/
def gap : Nat → List CpInfo → List CpInfo
  | 0, r => r
  | n + 1, r => .unusable :: gap n r
def poolList (es : List (Nat × CpInfo)) (last : Nat) : List CpInfo := es.foldr (fun e r => gap e.1 (e.2 :: r)) (gap last [])
def pool (es : List (Nat × CpInfo)) (last : Nat) : Array CpInfo := ⟨poolList es last⟩
def fileOf (pool : Array CpInfo) (this : Nat) (attrs : Array Attribute := #[]) (ms : Array MethodInfo := #[]) (fl : Nat := 33) (sup : Nat := 0) (ifs : Array Nat := #[]) (fds : Array FieldInfo := #[]) : ClassFile where
  minorVersion := 0
  majorVersion := 65
  constantPool := pool
  accessFlags := fl
  thisClass := this
  superClass := sup
  interfaces := ifs
  fields := fds
  methods := ms
  attributes := attrs
def plain (name : String) (sup : Option ClassId) : Class where
  name := name
  kind := .ordinary
  loader := none
  accessFlags := 33
  super := sup
  interfaces := #[]
  cf := none
  fields := #[]
  methods := #[]
  instanceTypes := #[]
  staticTypes := #[]
  resolved := #[]
  callSites := []
  init := .initialized
  statics := none
  mirror := none

def pool0 : Array CpInfo := pool [(5, u "<init>"), (0, u "()V"), (1, .class_ 10), (1, u "java/lang/Object")] 113

def k0c0 : Code := { maxStack := 0, maxLocals := 1, code := object_method_1_code, exceptionTable := #[], attributes := #[] }
def k0m0 : Method := { name := "<init>", desc := "()V", sig := { parameters := [], returnType := none }, accessFlags := 1, code := some k0c0 }
/-- java/lang/Object -/
def k0 : Class := { plain "java/lang/Object" none with
  accessFlags := 33
  interfaces := #[]
  cf := some (fileOf pool0 8 #[] #[{ accessFlags := 1, nameIndex := 5, descriptorIndex := 6, attributes := #[] }] 33 0 #[] #[])
  fields := #[]
  methods := #[k0m0]
  instanceTypes := #[]
  staticTypes := #[]
  resolved := Array.replicate 124 none
  statics := none }

def pool1 : Array CpInfo := pool [(2, .class_ 4), (1, u "java/lang/Object"), (0, u "<init>"), (0, u "()V"), (0, .class_ 8), (0, u "java/lang/String"), (0, .methodref 7 10), (0, .nameAndType 5 11), (0, u "([C)V"), (0, .methodref 13 14), (0, .class_ 15), (0, .nameAndType 16 17), (0, u "com/example/keyshelf/keyshelf/RuleResult"), (0, u "holds"), (0, u "(Ljava/lang/String;)Lcom/example/keyshelf/keyshelf/RuleResult;"), (0, .methodref 13 19), (0, .nameAndType 20 21), (0, u "rule"), (0, u "()Ljava/lang/String;"), (0, .methodref 7 23), (0, .nameAndType 24 25), (0, u "equals"), (0, u "(Ljava/lang/Object;)Z"), (0, .methodref 13 27), (0, .nameAndType 28 29), (0, u "outcome"), (0, u "()Lcom/example/keyshelf/keyshelf/RuleResult$Outcome;"), (0, .fieldref 31 32), (0, .class_ 33), (0, .nameAndType 34 35), (0, u "com/example/keyshelf/keyshelf/RuleResult$Outcome"), (0, u "HELD"), (0, u "Lcom/example/keyshelf/keyshelf/RuleResult$Outcome;"), (0, .methodref 13 37), (0, .nameAndType 38 21), (0, u "reason"), (0, .methodref 7 40), (0, .nameAndType 41 42), (0, u "isEmpty"), (0, u "()Z"), (0, .class_ 44), (0, u "com/example/keyshelf/keyshelf/RuleResultHoldsPinLaw"), (2, u "law"), (0, u "(IIII)Z")] 5

def k1m0 : Method := { name := "<init>", desc := "()V", sig := { parameters := [], returnType := none }, accessFlags := 1, code := none }
def k1c1 : Code := { maxStack := 6, maxLocals := 15, code := code, exceptionTable := #[], attributes := #[] }
def k1m1 : Method := { name := "law", desc := "(IIII)Z", sig := { parameters := [.int, .int, .int, .int], returnType := some .boolean }, accessFlags := 9, code := some k1c1 }
/-- com/example/keyshelf/keyshelf/RuleResultHoldsPinLaw -/
def k1 : Class := { plain "com/example/keyshelf/keyshelf/RuleResultHoldsPinLaw" (some 0) with
  accessFlags := 49
  interfaces := #[]
  cf := some (fileOf pool1 43 #[] #[{ accessFlags := 1, nameIndex := 5, descriptorIndex := 6, attributes := #[] }, { accessFlags := 9, nameIndex := 47, descriptorIndex := 48, attributes := #[] }] 49 2 #[] #[])
  fields := #[]
  methods := #[k1m0, k1m1]
  instanceTypes := #[]
  staticTypes := #[]
  resolved := Array.replicate 54 none
  statics := none }

def pool2 : Array CpInfo := pool [(1, .class_ 2), (0, u "java/io/Serializable"), (0, .class_ 4), (0, u "java/lang/Object")] 2

/-- java/io/Serializable -/
def k2 : Class := { plain "java/io/Serializable" (some 0) with
  accessFlags := 1537
  interfaces := #[]
  cf := some (fileOf pool2 1 #[] #[] 1537 3 #[] #[])
  fields := #[]
  methods := #[]
  instanceTypes := #[]
  staticTypes := #[]
  resolved := Array.replicate 7 none
  statics := none }

def pool3 : Array CpInfo := pool [(1, .class_ 2), (0, u "java/lang/Comparable"), (0, .class_ 4), (0, u "java/lang/Object")] 7

/-- java/lang/Comparable -/
def k3 : Class := { plain "java/lang/Comparable" (some 0) with
  accessFlags := 1537
  interfaces := #[]
  cf := some (fileOf pool3 1 #[] #[] 1537 3 #[] #[])
  fields := #[]
  methods := #[]
  instanceTypes := #[]
  staticTypes := #[]
  resolved := Array.replicate 12 none
  statics := none }

def pool4 : Array CpInfo := pool [(2, .class_ 4), (1, u "java/lang/CharSequence"), (42, .class_ 48), (0, u "java/lang/CharSequence$1CodePointIterator"), (10, .class_ 60), (0, u "java/lang/CharSequence$1CharIterator"), (5, .class_ 67), (0, u "java/lang/Object")] 63

/-- java/lang/CharSequence -/
def k4 : Class := { plain "java/lang/CharSequence" (some 0) with
  accessFlags := 1537
  interfaces := #[]
  cf := some (fileOf pool4 2 #[.nestMembers #[47, 59]] #[] 1537 66 #[] #[])
  fields := #[]
  methods := #[]
  instanceTypes := #[]
  staticTypes := #[]
  resolved := Array.replicate 131 none
  statics := none }

def pool5 : Array CpInfo := pool [(1, .class_ 2), (0, u "java/lang/constant/Constable"), (0, .class_ 4), (0, u "java/lang/Object")] 6

/-- java/lang/constant/Constable -/
def k5 : Class := { plain "java/lang/constant/Constable" (some 0) with
  accessFlags := 1537
  interfaces := #[]
  cf := some (fileOf pool5 1 #[] #[] 1537 3 #[] #[])
  fields := #[]
  methods := #[]
  instanceTypes := #[]
  staticTypes := #[]
  resolved := Array.replicate 11 none
  statics := none }

def pool6 : Array CpInfo := pool [(1, .class_ 2), (0, u "java/lang/constant/ConstantDesc"), (0, .class_ 4), (0, u "java/lang/Object")] 32

/-- java/lang/constant/ConstantDesc -/
def k6 : Class := { plain "java/lang/constant/ConstantDesc" (some 0) with
  accessFlags := 1537
  interfaces := #[]
  cf := some (fileOf pool6 1 #[] #[] 1537 3 #[] #[])
  fields := #[]
  methods := #[]
  instanceTypes := #[]
  staticTypes := #[]
  resolved := Array.replicate 37 none
  statics := none }

def pool7 : Array CpInfo := pool [(1, .methodref 2 3), (0, .class_ 4), (0, .nameAndType 5 6), (0, u "java/lang/Object"), (0, u "<init>"), (0, u "()V"), (0, .string 8), (0, u ""), (0, .fieldref 10 11), (0, .class_ 12), (0, .nameAndType 13 14), (0, u "java/lang/String"), (0, u "value"), (0, u "[B"), (0, .fieldref 10 16), (0, .nameAndType 17 18), (0, u "coder"), (0, u "B"), (2, u "hash"), (0, u "I"), (2, u "hashIsZero"), (0, u "Z"), (0, .methodref 10 28), (0, .nameAndType 5 29), (0, u "([CIILjava/lang/Void;)V"), (8, .fieldref 10 39), (0, .nameAndType 40 26), (0, u "COMPACT_STRINGS"), (1, .class_ 44), (1, u "java/lang/StringUTF16"), (0, u "compress"), (1, .methodref 42 48), (0, .nameAndType 49 50), (0, u "coderFromArrayLen"), (0, u "([BI)B"), (91, u "()Z"), (34, .methodref 42 178), (0, .nameAndType 45 179), (0, u "([CII)[B"), (363, u "equals"), (29, u "(Ljava/lang/Object;)Z"), (1, .class_ 576), (0, u "java/lang/CharSequence"), (22, u "CASE_INSENSITIVE_ORDER"), (0, u "Ljava/util/Comparator;"), (91, u "isEmpty"), (317, u "([C)V"), (90, u "serialPersistentFields"), (0, u "[Ljava/io/ObjectStreamField;"), (0, .class_ 1104), (0, u "java/lang/String$CaseInsensitiveComparator"), (1, .class_ 1107), (0, u "java/io/Serializable"), (0, .class_ 1109), (0, u "java/lang/Comparable"), (0, .class_ 1111), (0, u "java/lang/constant/Constable"), (0, .class_ 1113), (0, u "java/lang/constant/ConstantDesc"), (2, u "serialVersionUID"), (0, u "J"), (3, u "REPL"), (0, u "C"), (2, u "LATIN1"), (1, u "UTF16")] 323

def k7m0 : Method := { name := "<init>", desc := "()V", sig := { parameters := [], returnType := none }, accessFlags := 1, code := none }
def k7c1 : Code := { maxStack := 5, maxLocals := 2, code := jdk_42_method_3_code, exceptionTable := #[], attributes := #[] }
def k7m1 : Method := { name := "<init>", desc := "([C)V", sig := { parameters := [(.array .char)], returnType := none }, accessFlags := 1, code := some k7c1 }
def k7c2 : Code := { maxStack := 1, maxLocals := 1, code := jdk_42_method_55_code, exceptionTable := #[], attributes := #[] }
def k7m2 : Method := { name := "isEmpty", desc := "()Z", sig := { parameters := [], returnType := some .boolean }, accessFlags := 1, code := some k7c2 }
def k7c3 : Code := { maxStack := 2, maxLocals := 3, code := jdk_42_method_66_code, exceptionTable := #[], attributes := #[] }
def k7m3 : Method := { name := "equals", desc := "(Ljava/lang/Object;)Z", sig := { parameters := [(.object "java/lang/Object")], returnType := some .boolean }, accessFlags := 1, code := some k7c3 }
def k7c4 : Code := { maxStack := 4, maxLocals := 6, code := jdk_42_method_149_code, exceptionTable := #[], attributes := #[] }
def k7m4 : Method := { name := "<init>", desc := "([CIILjava/lang/Void;)V", sig := { parameters := [(.array .char), .int, .int, (.object "java/lang/Void")], returnType := none }, accessFlags := 2, code := some k7c4 }
/-- java/lang/String -/
def k7 : Class := { plain "java/lang/String" (some 0) with
  accessFlags := 49
  interfaces := #[2, 3, 4, 5, 6]
  cf := some (fileOf pool7 10 #[.nestMembers #[1103]] #[{ accessFlags := 1, nameIndex := 5, descriptorIndex := 6, attributes := #[] }, { accessFlags := 1, nameIndex := 5, descriptorIndex := 1010, attributes := #[] }, { accessFlags := 1, nameIndex := 692, descriptorIndex := 142, attributes := #[] }, { accessFlags := 1, nameIndex := 543, descriptorIndex := 573, attributes := #[] }, { accessFlags := 2, nameIndex := 5, descriptorIndex := 29, attributes := #[] }] 49 2 #[1106, 1108, 575, 1110, 1112] #[{ accessFlags := 18, nameIndex := 13, descriptorIndex := 14, attributes := #[] }, { accessFlags := 18, nameIndex := 17, descriptorIndex := 18, attributes := #[] }, { accessFlags := 2, nameIndex := 21, descriptorIndex := 22, attributes := #[] }, { accessFlags := 2, nameIndex := 25, descriptorIndex := 26, attributes := #[] }, { accessFlags := 26, nameIndex := 1116, descriptorIndex := 1117, attributes := #[] }, { accessFlags := 24, nameIndex := 40, descriptorIndex := 26, attributes := #[] }, { accessFlags := 26, nameIndex := 1101, descriptorIndex := 1102, attributes := #[] }, { accessFlags := 26, nameIndex := 1121, descriptorIndex := 1122, attributes := #[] }, { accessFlags := 25, nameIndex := 599, descriptorIndex := 600, attributes := #[] }, { accessFlags := 24, nameIndex := 1125, descriptorIndex := 18, attributes := #[] }, { accessFlags := 24, nameIndex := 1127, descriptorIndex := 18, attributes := #[] }])
  fields := #[{ name := "value", type := (.array .byte), accessFlags := 18, slot := 0, constantValue := 0 }, { name := "coder", type := .byte, accessFlags := 18, slot := 1, constantValue := 0 }, { name := "hash", type := .int, accessFlags := 2, slot := 2, constantValue := 0 }, { name := "hashIsZero", type := .boolean, accessFlags := 2, slot := 3, constantValue := 0 }, { name := "serialVersionUID", type := .long, accessFlags := 26, slot := 0, constantValue := 0 }, { name := "COMPACT_STRINGS", type := .boolean, accessFlags := 24, slot := 1, constantValue := 0 }, { name := "serialPersistentFields", type := (.array (.object "java/io/ObjectStreamField")), accessFlags := 26, slot := 2, constantValue := 0 }, { name := "REPL", type := .char, accessFlags := 26, slot := 3, constantValue := 0 }, { name := "CASE_INSENSITIVE_ORDER", type := (.object "java/util/Comparator"), accessFlags := 25, slot := 4, constantValue := 0 }, { name := "LATIN1", type := .byte, accessFlags := 24, slot := 5, constantValue := 0 }, { name := "UTF16", type := .byte, accessFlags := 24, slot := 6, constantValue := 0 }]
  methods := #[k7m0, k7m1, k7m2, k7m3, k7m4]
  instanceTypes := #[(.array .byte), .byte, .int, .boolean]
  staticTypes := #[.long, .boolean, (.array (.object "java/io/ObjectStreamField")), .char, (.object "java/util/Comparator"), .byte, .byte]
  resolved := Array.replicate 1451 none
  statics := some 0 }

def pool8 : Array CpInfo := pool [(6, .class_ 8), (1, u "java/lang/Object"), (0, u "<init>"), (0, u "()V"), (1, .class_ 14), (1, u "java/lang/StringUTF16"), (31, u "$assertionsDisabled"), (0, u "Z"), (13, u "HI_BYTE_SHIFT"), (0, u "I"), (2, u "LO_BYTE_SHIFT"), (49, .methodref 12 116), (0, .nameAndType 117 118), (0, u "compress"), (0, u "([CI[BII)I"), (3, u "([CII)[B"), (138, u "coderFromArrayLen"), (0, u "([BI)B"), (106, .class_ 371), (1, u "java/lang/StringUTF16$LinesSpliterator"), (58, u "MAX_LENGTH"), (196, .class_ 628), (0, u "java/lang/StringUTF16$CodePointsSpliterator"), (0, .class_ 630), (0, u "java/lang/StringUTF16$CharsSpliterator")] 4

def k8m0 : Method := { name := "<init>", desc := "()V", sig := { parameters := [], returnType := none }, accessFlags := 0, code := none }
def k8c1 : Code := { maxStack := 2, maxLocals := 2, code := jdk_52_method_15_code, exceptionTable := #[], attributes := #[] }
def k8m1 : Method := { name := "coderFromArrayLen", desc := "([BI)B", sig := { parameters := [(.array .byte), .int], returnType := some .byte }, accessFlags := 8, code := some k8c1 }
def k8c2 : Code := { maxStack := 5, maxLocals := 6, code := jdk_52_method_16_code, exceptionTable := #[], attributes := #[] }
def k8m2 : Method := { name := "compress", desc := "([CII)[B", sig := { parameters := [(.array .char), .int, .int], returnType := some (.array .byte) }, accessFlags := 9, code := some k8c2 }
def k8c3 : Code := { maxStack := 3, maxLocals := 7, code := jdk_52_method_21_code, exceptionTable := #[], attributes := #[] }
def k8m3 : Method := { name := "compress", desc := "([CI[BII)I", sig := { parameters := [(.array .char), .int, (.array .byte), .int, .int], returnType := some .int }, accessFlags := 9, code := some k8c3 }
/-- java/lang/StringUTF16 -/
def k8 : Class := { plain "java/lang/StringUTF16" (some 0) with
  accessFlags := 48
  interfaces := #[]
  cf := some (fileOf pool8 12 #[.nestMembers #[627, 629, 369]] #[{ accessFlags := 0, nameIndex := 9, descriptorIndex := 10, attributes := #[] }, { accessFlags := 8, nameIndex := 261, descriptorIndex := 262, attributes := #[] }, { accessFlags := 9, nameIndex := 117, descriptorIndex := 122, attributes := #[] }, { accessFlags := 9, nameIndex := 117, descriptorIndex := 118, attributes := #[] }] 48 6 #[] #[{ accessFlags := 26, nameIndex := 61, descriptorIndex := 62, attributes := #[] }, { accessFlags := 26, nameIndex := 65, descriptorIndex := 62, attributes := #[] }, { accessFlags := 24, nameIndex := 430, descriptorIndex := 62, attributes := #[] }, { accessFlags := 4120, nameIndex := 46, descriptorIndex := 47, attributes := #[] }])
  fields := #[{ name := "HI_BYTE_SHIFT", type := .int, accessFlags := 26, slot := 0, constantValue := 0 }, { name := "LO_BYTE_SHIFT", type := .int, accessFlags := 26, slot := 1, constantValue := 0 }, { name := "MAX_LENGTH", type := .int, accessFlags := 24, slot := 2, constantValue := 0 }, { name := "$assertionsDisabled", type := .boolean, accessFlags := 4120, slot := 3, constantValue := 0 }]
  methods := #[k8m0, k8m1, k8m2, k8m3]
  instanceTypes := #[]
  staticTypes := #[.int, .int, .int, .boolean]
  resolved := Array.replicate 635 none
  statics := none }

def pool9 : Array CpInfo := pool [(1, .methodref 2 3), (0, .class_ 4), (0, .nameAndType 5 6), (0, u "java/lang/Object"), (0, u "<init>"), (0, u "()V"), (0, .class_ 8), (0, u "java/lang/Record")] 13

def k9c0 : Code := { maxStack := 1, maxLocals := 1, code := jdk_30_method_1_code, exceptionTable := #[], attributes := #[] }
def k9m0 : Method := { name := "<init>", desc := "()V", sig := { parameters := [], returnType := none }, accessFlags := 4, code := some k9c0 }
/-- java/lang/Record -/
def k9 : Class := { plain "java/lang/Record" (some 0) with
  accessFlags := 1057
  interfaces := #[]
  cf := some (fileOf pool9 7 #[] #[{ accessFlags := 4, nameIndex := 5, descriptorIndex := 6, attributes := #[] }] 1057 2 #[] #[])
  fields := #[]
  methods := #[k9m0]
  instanceTypes := #[]
  staticTypes := #[]
  resolved := Array.replicate 22 none
  statics := none }

def pool10 : Array CpInfo := pool [(1, .methodref 2 3), (0, .class_ 4), (0, .nameAndType 5 6), (0, u "java/lang/Record"), (0, u "<init>"), (0, u "()V"), (0, .fieldref 8 9), (0, .class_ 10), (0, .nameAndType 11 12), (0, u "com/example/keyshelf/keyshelf/RuleResult"), (0, u "rule"), (0, u "Ljava/lang/String;"), (0, .fieldref 8 14), (0, .nameAndType 15 16), (0, u "outcome"), (0, u "Lcom/example/keyshelf/keyshelf/RuleResult$Outcome;"), (0, .fieldref 8 18), (0, .nameAndType 19 12), (0, u "reason"), (0, .fieldref 21 22), (0, .class_ 23), (0, .nameAndType 24 16), (0, u "com/example/keyshelf/keyshelf/RuleResult$Outcome"), (0, u "HELD"), (0, .string 26), (0, u ""), (0, .methodref 8 28), (0, .nameAndType 5 29), (0, u "(Ljava/lang/String;Lcom/example/keyshelf/keyshelf/RuleResult$Outcome;Ljava/lang/String;)V"), (8, u "holds"), (0, u "(Ljava/lang/String;)Lcom/example/keyshelf/keyshelf/RuleResult;"), (33, u "()Ljava/lang/String;"), (2, u "()Lcom/example/keyshelf/keyshelf/RuleResult$Outcome;")] 24

def k10c0 : Code := { maxStack := 2, maxLocals := 4, code := prog_6_method_1_code, exceptionTable := #[], attributes := #[] }
def k10m0 : Method := { name := "<init>", desc := "(Ljava/lang/String;Lcom/example/keyshelf/keyshelf/RuleResult$Outcome;Ljava/lang/String;)V", sig := { parameters := [(.object "java/lang/String"), (.object "com/example/keyshelf/keyshelf/RuleResult$Outcome"), (.object "java/lang/String")], returnType := none }, accessFlags := 1, code := some k10c0 }
def k10c1 : Code := { maxStack := 5, maxLocals := 1, code := prog_6_method_2_code, exceptionTable := #[], attributes := #[] }
def k10m1 : Method := { name := "holds", desc := "(Ljava/lang/String;)Lcom/example/keyshelf/keyshelf/RuleResult;", sig := { parameters := [(.object "java/lang/String")], returnType := some (.object "com/example/keyshelf/keyshelf/RuleResult") }, accessFlags := 9, code := some k10c1 }
def k10c2 : Code := { maxStack := 1, maxLocals := 1, code := prog_6_method_9_code, exceptionTable := #[], attributes := #[] }
def k10m2 : Method := { name := "rule", desc := "()Ljava/lang/String;", sig := { parameters := [], returnType := some (.object "java/lang/String") }, accessFlags := 1, code := some k10c2 }
def k10c3 : Code := { maxStack := 1, maxLocals := 1, code := prog_6_method_10_code, exceptionTable := #[], attributes := #[] }
def k10m3 : Method := { name := "outcome", desc := "()Lcom/example/keyshelf/keyshelf/RuleResult$Outcome;", sig := { parameters := [], returnType := some (.object "com/example/keyshelf/keyshelf/RuleResult$Outcome") }, accessFlags := 1, code := some k10c3 }
def k10c4 : Code := { maxStack := 1, maxLocals := 1, code := prog_6_method_11_code, exceptionTable := #[], attributes := #[] }
def k10m4 : Method := { name := "reason", desc := "()Ljava/lang/String;", sig := { parameters := [], returnType := some (.object "java/lang/String") }, accessFlags := 1, code := some k10c4 }
/-- com/example/keyshelf/keyshelf/RuleResult -/
def k10 : Class := { plain "com/example/keyshelf/keyshelf/RuleResult" (some 9) with
  accessFlags := 49
  interfaces := #[]
  cf := some (fileOf pool10 8 #[.nestMembers #[21]] #[{ accessFlags := 1, nameIndex := 5, descriptorIndex := 29, attributes := #[] }, { accessFlags := 9, nameIndex := 38, descriptorIndex := 39, attributes := #[] }, { accessFlags := 1, nameIndex := 11, descriptorIndex := 73, attributes := #[] }, { accessFlags := 1, nameIndex := 15, descriptorIndex := 76, attributes := #[] }, { accessFlags := 1, nameIndex := 19, descriptorIndex := 73, attributes := #[] }] 49 2 #[] #[{ accessFlags := 18, nameIndex := 11, descriptorIndex := 12, attributes := #[] }, { accessFlags := 18, nameIndex := 15, descriptorIndex := 16, attributes := #[] }, { accessFlags := 18, nameIndex := 19, descriptorIndex := 12, attributes := #[] }])
  fields := #[{ name := "rule", type := (.object "java/lang/String"), accessFlags := 18, slot := 0, constantValue := 0 }, { name := "outcome", type := (.object "com/example/keyshelf/keyshelf/RuleResult$Outcome"), accessFlags := 18, slot := 1, constantValue := 0 }, { name := "reason", type := (.object "java/lang/String"), accessFlags := 18, slot := 2, constantValue := 0 }]
  methods := #[k10m0, k10m1, k10m2, k10m3, k10m4]
  instanceTypes := #[(.object "java/lang/String"), (.object "com/example/keyshelf/keyshelf/RuleResult$Outcome"), (.object "java/lang/String")]
  staticTypes := #[]
  resolved := Array.replicate 101 none
  statics := none }

def pool11 : Array CpInfo := pool [(2, .class_ 4), (1, u "java/lang/Enum"), (0, u "name"), (0, u "Ljava/lang/String;"), (2, u "ordinal"), (0, u "I"), (1, .class_ 14), (1, u "java/lang/Object"), (4, u "hash"), (86, .class_ 108), (1, u "java/lang/Enum$EnumDesc"), (2, .class_ 112), (0, u "java/lang/constant/Constable"), (0, .class_ 114), (0, u "java/lang/Comparable"), (0, .class_ 116), (0, u "java/io/Serializable")] 87

/-- java/lang/Enum -/
def k11 : Class := { plain "java/lang/Enum" (some 0) with
  accessFlags := 1057
  interfaces := #[5, 3, 2]
  cf := some (fileOf pool11 2 #[.nestMembers #[106]] #[] 1057 12 #[111, 113, 115] #[{ accessFlags := 18, nameIndex := 5, descriptorIndex := 6, attributes := #[] }, { accessFlags := 18, nameIndex := 9, descriptorIndex := 10, attributes := #[] }, { accessFlags := 2, nameIndex := 19, descriptorIndex := 10, attributes := #[] }])
  fields := #[{ name := "name", type := (.object "java/lang/String"), accessFlags := 18, slot := 0, constantValue := 0 }, { name := "ordinal", type := .int, accessFlags := 18, slot := 1, constantValue := 0 }, { name := "hash", type := .int, accessFlags := 2, slot := 2, constantValue := 0 }]
  methods := #[]
  instanceTypes := #[(.object "java/lang/String"), .int, .int]
  staticTypes := #[]
  resolved := Array.replicate 204 none
  statics := none }

def pool12 : Array CpInfo := pool [(1, .class_ 2), (0, u "com/example/keyshelf/keyshelf/RuleResult$Outcome"), (2, u "HELD"), (0, u "Lcom/example/keyshelf/keyshelf/RuleResult$Outcome;"), (2, u "BROKEN"), (2, u "SKIPPED"), (2, u "$VALUES"), (0, u "[Lcom/example/keyshelf/keyshelf/RuleResult$Outcome;"), (6, .class_ 25), (1, u "java/lang/Enum"), (26, .class_ 53), (0, u "com/example/keyshelf/keyshelf/RuleResult")] 2

/-- com/example/keyshelf/keyshelf/RuleResult$Outcome -/
def k12 : Class := { plain "com/example/keyshelf/keyshelf/RuleResult$Outcome" (some 11) with
  accessFlags := 16433
  interfaces := #[]
  cf := some (fileOf pool12 1 #[.nestHost 52] #[] 16433 23 #[] #[{ accessFlags := 16409, nameIndex := 5, descriptorIndex := 6, attributes := #[] }, { accessFlags := 16409, nameIndex := 9, descriptorIndex := 6, attributes := #[] }, { accessFlags := 16409, nameIndex := 12, descriptorIndex := 6, attributes := #[] }, { accessFlags := 4122, nameIndex := 15, descriptorIndex := 16, attributes := #[] }])
  fields := #[{ name := "HELD", type := (.object "com/example/keyshelf/keyshelf/RuleResult$Outcome"), accessFlags := 16409, slot := 0, constantValue := 0 }, { name := "BROKEN", type := (.object "com/example/keyshelf/keyshelf/RuleResult$Outcome"), accessFlags := 16409, slot := 1, constantValue := 0 }, { name := "SKIPPED", type := (.object "com/example/keyshelf/keyshelf/RuleResult$Outcome"), accessFlags := 16409, slot := 2, constantValue := 0 }, { name := "$VALUES", type := (.array (.object "com/example/keyshelf/keyshelf/RuleResult$Outcome")), accessFlags := 4122, slot := 3, constantValue := 0 }]
  methods := #[]
  instanceTypes := #[(.object "java/lang/String"), .int, .int]
  staticTypes := #[(.object "com/example/keyshelf/keyshelf/RuleResult$Outcome"), (.object "com/example/keyshelf/keyshelf/RuleResult$Outcome"), (.object "com/example/keyshelf/keyshelf/RuleResult$Outcome"), (.array (.object "com/example/keyshelf/keyshelf/RuleResult$Outcome"))]
  resolved := Array.replicate 56 none
  statics := some 1 }

def pool13 : Array CpInfo := pool [(4, .class_ 6), (1, u "java/lang/Object"), (0, u "<init>"), (0, u "()V"), (5, .class_ 16), (1, u "java/lang/StringLatin1"), (104, u "$assertionsDisabled"), (0, u "Z"), (98, .class_ 223), (1, u "java/lang/StringLatin1$LinesSpliterator"), (166, .class_ 391), (0, u "java/lang/StringLatin1$CharsSpliterator")] 3

def k13m0 : Method := { name := "<init>", desc := "()V", sig := { parameters := [], returnType := none }, accessFlags := 0, code := none }
/-- java/lang/StringLatin1 -/
def k13 : Class := { plain "java/lang/StringLatin1" (some 0) with
  accessFlags := 48
  interfaces := #[]
  cf := some (fileOf pool13 14 #[.nestMembers #[390, 221]] #[{ accessFlags := 0, nameIndex := 7, descriptorIndex := 8, attributes := #[] }] 48 4 #[] #[{ accessFlags := 4120, nameIndex := 121, descriptorIndex := 122, attributes := #[] }])
  fields := #[{ name := "$assertionsDisabled", type := .boolean, accessFlags := 4120, slot := 0, constantValue := 0 }]
  methods := #[k13m0]
  instanceTypes := #[]
  staticTypes := #[.boolean]
  resolved := Array.replicate 395 none
  statics := none }

def pool14 : Array CpInfo := pool [(2, .class_ 4), (1, u "java/lang/Object"), (0, u "<init>"), (0, u "()V"), (17, .class_ 26), (1, u "jdk/internal/util/Preconditions"), (28, .class_ 56), (0, u "jdk/internal/util/Preconditions$4"), (57, .class_ 115), (0, u "jdk/internal/util/Preconditions$1"), (7, u "SIOOBE_FORMATTER"), (0, u "Ljava/util/function/BiFunction;"), (0, .class_ 126), (0, u "jdk/internal/util/Preconditions$2"), (3, u "AIOOBE_FORMATTER"), (0, .class_ 132), (0, u "jdk/internal/util/Preconditions$3"), (3, u "IOOBE_FORMATTER")] 57

def k14m0 : Method := { name := "<init>", desc := "()V", sig := { parameters := [], returnType := none }, accessFlags := 1, code := none }
/-- jdk/internal/util/Preconditions -/
def k14 : Class := { plain "jdk/internal/util/Preconditions" (some 0) with
  accessFlags := 33
  interfaces := #[]
  cf := some (fileOf pool14 24 #[.nestMembers #[55, 131, 125, 114]] #[{ accessFlags := 1, nameIndex := 5, descriptorIndex := 6, attributes := #[] }] 33 2 #[] #[{ accessFlags := 25, nameIndex := 123, descriptorIndex := 124, attributes := #[] }, { accessFlags := 25, nameIndex := 130, descriptorIndex := 124, attributes := #[] }, { accessFlags := 25, nameIndex := 136, descriptorIndex := 124, attributes := #[] }])
  fields := #[{ name := "SIOOBE_FORMATTER", type := (.object "java/util/function/BiFunction"), accessFlags := 25, slot := 0, constantValue := 0 }, { name := "AIOOBE_FORMATTER", type := (.object "java/util/function/BiFunction"), accessFlags := 25, slot := 1, constantValue := 0 }, { name := "IOOBE_FORMATTER", type := (.object "java/util/function/BiFunction"), accessFlags := 25, slot := 2, constantValue := 0 }]
  methods := #[k14m0]
  instanceTypes := #[]
  staticTypes := #[(.object "java/util/function/BiFunction"), (.object "java/util/function/BiFunction"), (.object "java/util/function/BiFunction")]
  resolved := Array.replicate 194 none
  statics := some 2 }

def pool15 : Array CpInfo := pool [(9, u "<init>"), (6, .class_ 18), (1, u "java/lang/Object"), (0, u "()V"), (1, .class_ 23), (1, u "jdk/internal/util/ArraysSupport"), (0, u "LOG2_ARRAY_LONG_INDEX_SCALE"), (0, u "I"), (2, u "U"), (0, u "Ljdk/internal/misc/Unsafe;"), (8, u "BIG_ENDIAN"), (0, u "Z"), (8, u "LOG2_BYTE_BIT_SIZE"), (4, u "LOG2_ARRAY_INT_INDEX_SCALE"), (54, u "JLA"), (0, u "Ljdk/internal/access/JavaLangAccess;"), (11, u "LOG2_ARRAY_BOOLEAN_INDEX_SCALE"), (9, u "LOG2_ARRAY_BYTE_INDEX_SCALE"), (5, u "LOG2_ARRAY_CHAR_INDEX_SCALE"), (5, u "LOG2_ARRAY_SHORT_INDEX_SCALE"), (18, u "LOG2_ARRAY_FLOAT_INDEX_SCALE"), (24, u "LOG2_ARRAY_DOUBLE_INDEX_SCALE"), (89, u "T_BOOLEAN"), (2, u "T_CHAR"), (1, u "T_FLOAT"), (1, u "T_DOUBLE"), (1, u "T_BYTE"), (1, u "T_SHORT"), (1, u "T_INT"), (1, u "T_LONG"), (1, u "SOFT_MAX_ARRAY_LENGTH")] 83

def k15m0 : Method := { name := "<init>", desc := "()V", sig := { parameters := [], returnType := none }, accessFlags := 2, code := none }
/-- jdk/internal/util/ArraysSupport -/
def k15 : Class := { plain "jdk/internal/util/ArraysSupport" (some 0) with
  accessFlags := 33
  interfaces := #[]
  cf := some (fileOf pool15 21 #[] #[{ accessFlags := 2, nameIndex := 9, descriptorIndex := 19, attributes := #[] }] 33 16 #[] #[{ accessFlags := 24, nameIndex := 28, descriptorIndex := 29, attributes := #[] }, { accessFlags := 26, nameIndex := 38, descriptorIndex := 39, attributes := #[] }, { accessFlags := 25, nameIndex := 121, descriptorIndex := 25, attributes := #[] }, { accessFlags := 25, nameIndex := 131, descriptorIndex := 25, attributes := #[] }, { accessFlags := 25, nameIndex := 137, descriptorIndex := 25, attributes := #[] }, { accessFlags := 25, nameIndex := 143, descriptorIndex := 25, attributes := #[] }, { accessFlags := 25, nameIndex := 53, descriptorIndex := 25, attributes := #[] }, { accessFlags := 25, nameIndex := 24, descriptorIndex := 25, attributes := #[] }, { accessFlags := 25, nameIndex := 162, descriptorIndex := 25, attributes := #[] }, { accessFlags := 25, nameIndex := 187, descriptorIndex := 25, attributes := #[] }, { accessFlags := 26, nameIndex := 48, descriptorIndex := 25, attributes := #[] }, { accessFlags := 25, nameIndex := 277, descriptorIndex := 25, attributes := #[] }, { accessFlags := 25, nameIndex := 280, descriptorIndex := 25, attributes := #[] }, { accessFlags := 25, nameIndex := 282, descriptorIndex := 25, attributes := #[] }, { accessFlags := 25, nameIndex := 284, descriptorIndex := 25, attributes := #[] }, { accessFlags := 25, nameIndex := 286, descriptorIndex := 25, attributes := #[] }, { accessFlags := 25, nameIndex := 288, descriptorIndex := 25, attributes := #[] }, { accessFlags := 25, nameIndex := 290, descriptorIndex := 25, attributes := #[] }, { accessFlags := 25, nameIndex := 292, descriptorIndex := 25, attributes := #[] }, { accessFlags := 26, nameIndex := 108, descriptorIndex := 109, attributes := #[] }, { accessFlags := 25, nameIndex := 294, descriptorIndex := 25, attributes := #[] }])
  fields := #[{ name := "U", type := (.object "jdk/internal/misc/Unsafe"), accessFlags := 24, slot := 0, constantValue := 0 }, { name := "BIG_ENDIAN", type := .boolean, accessFlags := 26, slot := 1, constantValue := 0 }, { name := "LOG2_ARRAY_BOOLEAN_INDEX_SCALE", type := .int, accessFlags := 25, slot := 2, constantValue := 0 }, { name := "LOG2_ARRAY_BYTE_INDEX_SCALE", type := .int, accessFlags := 25, slot := 3, constantValue := 0 }, { name := "LOG2_ARRAY_CHAR_INDEX_SCALE", type := .int, accessFlags := 25, slot := 4, constantValue := 0 }, { name := "LOG2_ARRAY_SHORT_INDEX_SCALE", type := .int, accessFlags := 25, slot := 5, constantValue := 0 }, { name := "LOG2_ARRAY_INT_INDEX_SCALE", type := .int, accessFlags := 25, slot := 6, constantValue := 0 }, { name := "LOG2_ARRAY_LONG_INDEX_SCALE", type := .int, accessFlags := 25, slot := 7, constantValue := 0 }, { name := "LOG2_ARRAY_FLOAT_INDEX_SCALE", type := .int, accessFlags := 25, slot := 8, constantValue := 0 }, { name := "LOG2_ARRAY_DOUBLE_INDEX_SCALE", type := .int, accessFlags := 25, slot := 9, constantValue := 0 }, { name := "LOG2_BYTE_BIT_SIZE", type := .int, accessFlags := 26, slot := 10, constantValue := 0 }, { name := "T_BOOLEAN", type := .int, accessFlags := 25, slot := 11, constantValue := 0 }, { name := "T_CHAR", type := .int, accessFlags := 25, slot := 12, constantValue := 0 }, { name := "T_FLOAT", type := .int, accessFlags := 25, slot := 13, constantValue := 0 }, { name := "T_DOUBLE", type := .int, accessFlags := 25, slot := 14, constantValue := 0 }, { name := "T_BYTE", type := .int, accessFlags := 25, slot := 15, constantValue := 0 }, { name := "T_SHORT", type := .int, accessFlags := 25, slot := 16, constantValue := 0 }, { name := "T_INT", type := .int, accessFlags := 25, slot := 17, constantValue := 0 }, { name := "T_LONG", type := .int, accessFlags := 25, slot := 18, constantValue := 0 }, { name := "JLA", type := (.object "jdk/internal/access/JavaLangAccess"), accessFlags := 26, slot := 19, constantValue := 0 }, { name := "SOFT_MAX_ARRAY_LENGTH", type := .int, accessFlags := 25, slot := 20, constantValue := 0 }]
  methods := #[k15m0]
  instanceTypes := #[]
  staticTypes := #[(.object "jdk/internal/misc/Unsafe"), .boolean, .int, .int, .int, .int, .int, .int, .int, .int, .int, .int, .int, .int, .int, .int, .int, .int, .int, (.object "jdk/internal/access/JavaLangAccess"), .int]
  resolved := Array.replicate 378 none
  statics := none }

def pool16 : Array CpInfo := pool [(1, u "java/lang/Cloneable"), (0, .class_ 1), (0, u "java/lang/Object"), (0, .class_ 3)] 3

/-- java/lang/Cloneable -/
def k16 : Class := { plain "java/lang/Cloneable" (some 0) with
  accessFlags := 1537
  interfaces := #[]
  cf := some (fileOf pool16 2 #[] #[] 1537 4 #[] #[])
  fields := #[]
  methods := #[]
  instanceTypes := #[]
  staticTypes := #[]
  resolved := Array.replicate 8 none
  statics := none }

/-- the primitive byte -/
def k17 : Class := { plain "byte" none with kind := .primitive 'B', accessFlags := 0x411 }
/-- [B -/
def k18 : Class := { plain "[B" (some 0) with kind := .array 17 .byte, interfaces := #[16, 2], accessFlags := 1041 }

/-- the primitive char -/
def k19 : Class := { plain "char" none with kind := .primitive 'C', accessFlags := 0x411 }
/-- [C -/
def k20 : Class := { plain "[C" (some 0) with kind := .array 19 .char, interfaces := #[16, 2], accessFlags := 1041 }

/-- the primitive int -/
def k21 : Class := { plain "int" none with kind := .primitive 'I', accessFlags := 0x411 }
/-- [I -/
def k22 : Class := { plain "[I" (some 0) with kind := .array 21 .int, interfaces := #[16, 2], accessFlags := 1041 }

def heap : Heap := #[{ cls := 7, slots := #[.long 0, .int 1, .null, .int 0, .null, .int 0, .int 0], vm := .statics 7 },
  { cls := 12, slots := #[.ref 3, .null, .null, .null], vm := .statics 12 },
  { cls := 14, slots := #[.null, .null, .null], vm := .statics 14 },
  { cls := 12, slots := #[.null, .int 0, .int 0], vm := .none }]
def classes : Array Class := #[k0, k1, k2, k3, k4, k5, k6, k7, k8, k9, k10, k11, k12, k13, k14, k15, k16, k17, k18, k19, k20, k21, k22]
def interned : List (Array UInt16 × Addr) := []
def slotsUsed : Nat := 17
def theMethod : MethodId := ⟨1, 1⟩
def args0 : Array Value := #[.int 65, .int 66, .int 67, .int 2]
def aboutOver (below : List Frame) : State where
  vm := { classes := classes, interned := interned.toArray }
  heap := heap
  slotsUsed := slotsUsed
  threads := #[{ frames := .invoking theMethod args0 :: below }]
def below0 : List Frame := [.native { method := ⟨0, 0⟩, args := #[] }]
def about1 : State := aboutOver below0
def p0 : Program := .bare "" "" ""
def e0 : Env := launch0.env 0 0 0
theorem w_frames : about1.frames = Frame.invoking theMethod args0 :: below0 := rfl
set_option maxRecDepth 65536 in
theorem w_args : argsFit about1.vm theMethod args0 = true := by decide +kernel
set_option maxRecDepth 65536 in
theorem w_heap : heapFits about1 = true := by decide +kernel
set_option maxRecDepth 65536 in
theorem w_runnable : about1.curStatus? = some .runnable := by decide +kernel
set_option maxRecDepth 65536 in
theorem w_alone : about1.alone = true := by decide +kernel
set_option maxRecDepth 65536 in
theorem w_named : about1.methodNamed? x = some theMethod := by decide +kernel
set_option maxRecDepth 65536 in
theorem w_hears : about1.hears theMethod below0 = true := by decide +kernel
set_option maxRecDepth 65536 in
theorem w_ripe : about1.ripe theMethod args0 below0 = true := by decide +kernel
theorem w_running : about1.status = .running := rfl
set_option maxRecDepth 65536 in
theorem w_room : about1.hasRoom e0.platform room_1 = true :=
  launch0.hasRoom_least _ room_1 (by decide +kernel) (by decide +kernel) (by decide +kernel) (by decide +kernel) (by decide +kernel) (by decide +kernel)
theorem allAtoms_all (ts : List Jvm.Cond) (a : Array Jvm.Value) (st : Jvm.State) : (allAtoms ts).before a st = ts.all (fun c => c.before a st) := by
  induction ts with
  | nil => rfl
  | cons c t ih =>
    show (Jvm.Cond.and c (allAtoms t)).before a st = _
    rw [Jvm.Cond.before_and, ih, List.all_cons]
def words1 : List Jvm.Cond := Jvm.Cond.code x code maxLocals ret :: tables_1
/-- a 'code' word, met by the world's own term for the bytes: nothing is compared byte by byte -/
theorem code_word {y : MethodName} {bytes : ByteArray} {mx : Nat} {rt : Option FieldType} {a : Array Value} {s : State} {m : MethodId} {meth : Method} {c : Code} (h1 : s.methodNamed? y = some m) (h2 : s.vm.method? m = some meth) (h3 : meth.code = some c) (h4 : c.code = bytes)
    (h5 : (c.maxLocals == mx && c.exceptionTable.isEmpty && decide (c.maxStack ≤ mostOperands) && decide (meth.sig.returnType = rt) && !meth.locks && decide (parseMethodDescriptor y.desc = some meth.sig)) = true) : (Jvm.Cond.code y bytes mx rt).before a s = true := by
  simp only [Bool.and_eq_true, beq_iff_eq, Bool.not_eq_true', decide_eq_true_eq] at h5
  obtain ⟨⟨⟨⟨⟨g1, g2⟩, g3⟩, g4⟩, g5⟩, g6⟩ := h5
  simp [Cond.before, Cond.holds, Cond.value, h1, h2, h3, h4, g1, g2, g3, g4, g5, g6]
def isCode : Jvm.Cond → Bool
  | .code _ _ _ _ => true
  | _ => false
theorem all_split {L : List Jvm.Cond} {P : Jvm.Cond → Bool} (h1 : L.all (fun c => isCode c || P c) = true) (h2 : ∀ c ∈ L.filter isCode, P c = true) : L.all P = true := by
  refine List.all_eq_true.mpr fun c hc => ?_
  have h := List.all_eq_true.mp h1 c hc
  rcases Bool.eq_false_or_eq_true (isCode c) with hi | hi
  · exact h2 c (List.mem_filter.mpr ⟨hc, hi⟩)
  · simpa [hi] using h
set_option maxRecDepth 65536 in
theorem w_c0 : (Jvm.Cond.code x code maxLocals ret).before args0 about1 = true := code_word (m := ⟨1, 1⟩) (meth := k1m1) (c := k1c1) (by decide +kernel) rfl rfl rfl (by decide +kernel)
set_option maxRecDepth 65536 in
theorem w_c1 : (Jvm.Cond.code ({ cls := "java/lang/String", name := "<init>", desc := "([C)V" } : Jvm.MethodName) jdk_42_method_3_code (2 : Nat) (Option.none : Option Jvm.ClassFile.FieldType)).before args0 about1 = true := code_word (m := ⟨7, 1⟩) (meth := k7m1) (c := k7c1) (by decide +kernel) rfl rfl rfl (by decide +kernel)
set_option maxRecDepth 65536 in
theorem w_c2 : (Jvm.Cond.code ({ cls := "java/lang/String", name := "<init>", desc := "([CIILjava/lang/Void;)V" } : Jvm.MethodName) jdk_42_method_149_code (6 : Nat) (Option.none : Option Jvm.ClassFile.FieldType)).before args0 about1 = true := code_word (m := ⟨7, 4⟩) (meth := k7m4) (c := k7c4) (by decide +kernel) rfl rfl rfl (by decide +kernel)
set_option maxRecDepth 65536 in
theorem w_c3 : (Jvm.Cond.code ({ cls := "java/lang/Object", name := "<init>", desc := "()V" } : Jvm.MethodName) object_method_1_code (1 : Nat) (Option.none : Option Jvm.ClassFile.FieldType)).before args0 about1 = true := code_word (m := ⟨0, 0⟩) (meth := k0m0) (c := k0c0) (by decide +kernel) rfl rfl rfl (by decide +kernel)
set_option maxRecDepth 65536 in
theorem w_c4 : (Jvm.Cond.code ({ cls := "java/lang/StringUTF16", name := "compress", desc := "([CII)[B" } : Jvm.MethodName) jdk_52_method_16_code (6 : Nat) (Option.some (Jvm.ClassFile.FieldType.array Jvm.ClassFile.FieldType.byte))).before args0 about1 = true := code_word (m := ⟨8, 2⟩) (meth := k8m2) (c := k8c2) (by decide +kernel) rfl rfl rfl (by decide +kernel)
set_option maxRecDepth 65536 in
theorem w_c5 : (Jvm.Cond.code ({ cls := "java/lang/StringUTF16", name := "compress", desc := "([CI[BII)I" } : Jvm.MethodName) jdk_52_method_21_code (7 : Nat) (Option.some Jvm.ClassFile.FieldType.int)).before args0 about1 = true := code_word (m := ⟨8, 3⟩) (meth := k8m3) (c := k8c3) (by decide +kernel) rfl rfl rfl (by decide +kernel)
set_option maxRecDepth 65536 in
theorem w_c6 : (Jvm.Cond.code ({ cls := "java/lang/StringUTF16", name := "coderFromArrayLen", desc := "([BI)B" } : Jvm.MethodName) jdk_52_method_15_code (2 : Nat) (Option.some Jvm.ClassFile.FieldType.byte)).before args0 about1 = true := code_word (m := ⟨8, 1⟩) (meth := k8m1) (c := k8c1) (by decide +kernel) rfl rfl rfl (by decide +kernel)
set_option maxRecDepth 65536 in
theorem w_c7 : (Jvm.Cond.code ({ cls := "com/example/keyshelf/keyshelf/RuleResult", name := "holds", desc := "(Ljava/lang/String;)Lcom/example/keyshelf/keyshelf/RuleResult;" } : Jvm.MethodName) prog_6_method_2_code (1 : Nat) (Option.some (Jvm.ClassFile.FieldType.object "com/example/keyshelf/keyshelf/RuleResult"))).before args0 about1 = true := code_word (m := ⟨10, 1⟩) (meth := k10m1) (c := k10c1) (by decide +kernel) rfl rfl rfl (by decide +kernel)
set_option maxRecDepth 65536 in
theorem w_c8 : (Jvm.Cond.code ({ cls := "com/example/keyshelf/keyshelf/RuleResult", name := "<init>", desc := "(Ljava/lang/String;Lcom/example/keyshelf/keyshelf/RuleResult$Outcome;Ljava/lang/String;)V" } : Jvm.MethodName) prog_6_method_1_code (4 : Nat) (Option.none : Option Jvm.ClassFile.FieldType)).before args0 about1 = true := code_word (m := ⟨10, 0⟩) (meth := k10m0) (c := k10c0) (by decide +kernel) rfl rfl rfl (by decide +kernel)
set_option maxRecDepth 65536 in
theorem w_c9 : (Jvm.Cond.code ({ cls := "java/lang/Record", name := "<init>", desc := "()V" } : Jvm.MethodName) jdk_30_method_1_code (1 : Nat) (Option.none : Option Jvm.ClassFile.FieldType)).before args0 about1 = true := code_word (m := ⟨9, 0⟩) (meth := k9m0) (c := k9c0) (by decide +kernel) rfl rfl rfl (by decide +kernel)
set_option maxRecDepth 65536 in
theorem w_c10 : (Jvm.Cond.code ({ cls := "com/example/keyshelf/keyshelf/RuleResult", name := "rule", desc := "()Ljava/lang/String;" } : Jvm.MethodName) prog_6_method_9_code (1 : Nat) (Option.some (Jvm.ClassFile.FieldType.object "java/lang/String"))).before args0 about1 = true := code_word (m := ⟨10, 2⟩) (meth := k10m2) (c := k10c2) (by decide +kernel) rfl rfl rfl (by decide +kernel)
set_option maxRecDepth 65536 in
theorem w_c11 : (Jvm.Cond.code ({ cls := "java/lang/String", name := "equals", desc := "(Ljava/lang/Object;)Z" } : Jvm.MethodName) jdk_42_method_66_code (3 : Nat) (Option.some Jvm.ClassFile.FieldType.boolean)).before args0 about1 = true := code_word (m := ⟨7, 3⟩) (meth := k7m3) (c := k7c3) (by decide +kernel) rfl rfl rfl (by decide +kernel)
set_option maxRecDepth 65536 in
theorem w_c12 : (Jvm.Cond.code ({ cls := "com/example/keyshelf/keyshelf/RuleResult", name := "outcome", desc := "()Lcom/example/keyshelf/keyshelf/RuleResult$Outcome;" } : Jvm.MethodName) prog_6_method_10_code (1 : Nat) (Option.some (Jvm.ClassFile.FieldType.object "com/example/keyshelf/keyshelf/RuleResult$Outcome"))).before args0 about1 = true := code_word (m := ⟨10, 3⟩) (meth := k10m3) (c := k10c3) (by decide +kernel) rfl rfl rfl (by decide +kernel)
set_option maxRecDepth 65536 in
theorem w_c13 : (Jvm.Cond.code ({ cls := "com/example/keyshelf/keyshelf/RuleResult", name := "reason", desc := "()Ljava/lang/String;" } : Jvm.MethodName) prog_6_method_11_code (1 : Nat) (Option.some (Jvm.ClassFile.FieldType.object "java/lang/String"))).before args0 about1 = true := code_word (m := ⟨10, 4⟩) (meth := k10m4) (c := k10c4) (by decide +kernel) rfl rfl rfl (by decide +kernel)
set_option maxRecDepth 65536 in
theorem w_c14 : (Jvm.Cond.code ({ cls := "java/lang/String", name := "isEmpty", desc := "()Z" } : Jvm.MethodName) jdk_42_method_55_code (1 : Nat) (Option.some Jvm.ClassFile.FieldType.boolean)).before args0 about1 = true := code_word (m := ⟨7, 2⟩) (meth := k7m2) (c := k7c2) (by decide +kernel) rfl rfl rfl (by decide +kernel)
def codes1 : List Jvm.Cond := [Jvm.Cond.code x code maxLocals ret, Jvm.Cond.code ({ cls := "java/lang/String", name := "<init>", desc := "([C)V" } : Jvm.MethodName) jdk_42_method_3_code (2 : Nat) (Option.none : Option Jvm.ClassFile.FieldType), Jvm.Cond.code ({ cls := "java/lang/String", name := "<init>", desc := "([CIILjava/lang/Void;)V" } : Jvm.MethodName) jdk_42_method_149_code (6 : Nat) (Option.none : Option Jvm.ClassFile.FieldType), Jvm.Cond.code ({ cls := "java/lang/Object", name := "<init>", desc := "()V" } : Jvm.MethodName) object_method_1_code (1 : Nat) (Option.none : Option Jvm.ClassFile.FieldType), Jvm.Cond.code ({ cls := "java/lang/StringUTF16", name := "compress", desc := "([CII)[B" } : Jvm.MethodName) jdk_52_method_16_code (6 : Nat) (Option.some (Jvm.ClassFile.FieldType.array Jvm.ClassFile.FieldType.byte)), Jvm.Cond.code ({ cls := "java/lang/StringUTF16", name := "compress", desc := "([CI[BII)I" } : Jvm.MethodName) jdk_52_method_21_code (7 : Nat) (Option.some Jvm.ClassFile.FieldType.int), Jvm.Cond.code ({ cls := "java/lang/StringUTF16", name := "coderFromArrayLen", desc := "([BI)B" } : Jvm.MethodName) jdk_52_method_15_code (2 : Nat) (Option.some Jvm.ClassFile.FieldType.byte), Jvm.Cond.code ({ cls := "com/example/keyshelf/keyshelf/RuleResult", name := "holds", desc := "(Ljava/lang/String;)Lcom/example/keyshelf/keyshelf/RuleResult;" } : Jvm.MethodName) prog_6_method_2_code (1 : Nat) (Option.some (Jvm.ClassFile.FieldType.object "com/example/keyshelf/keyshelf/RuleResult")), Jvm.Cond.code ({ cls := "com/example/keyshelf/keyshelf/RuleResult", name := "<init>", desc := "(Ljava/lang/String;Lcom/example/keyshelf/keyshelf/RuleResult$Outcome;Ljava/lang/String;)V" } : Jvm.MethodName) prog_6_method_1_code (4 : Nat) (Option.none : Option Jvm.ClassFile.FieldType), Jvm.Cond.code ({ cls := "java/lang/Record", name := "<init>", desc := "()V" } : Jvm.MethodName) jdk_30_method_1_code (1 : Nat) (Option.none : Option Jvm.ClassFile.FieldType), Jvm.Cond.code ({ cls := "com/example/keyshelf/keyshelf/RuleResult", name := "rule", desc := "()Ljava/lang/String;" } : Jvm.MethodName) prog_6_method_9_code (1 : Nat) (Option.some (Jvm.ClassFile.FieldType.object "java/lang/String")), Jvm.Cond.code ({ cls := "java/lang/String", name := "equals", desc := "(Ljava/lang/Object;)Z" } : Jvm.MethodName) jdk_42_method_66_code (3 : Nat) (Option.some Jvm.ClassFile.FieldType.boolean), Jvm.Cond.code ({ cls := "com/example/keyshelf/keyshelf/RuleResult", name := "outcome", desc := "()Lcom/example/keyshelf/keyshelf/RuleResult$Outcome;" } : Jvm.MethodName) prog_6_method_10_code (1 : Nat) (Option.some (Jvm.ClassFile.FieldType.object "com/example/keyshelf/keyshelf/RuleResult$Outcome")), Jvm.Cond.code ({ cls := "com/example/keyshelf/keyshelf/RuleResult", name := "reason", desc := "()Ljava/lang/String;" } : Jvm.MethodName) prog_6_method_11_code (1 : Nat) (Option.some (Jvm.ClassFile.FieldType.object "java/lang/String")), Jvm.Cond.code ({ cls := "java/lang/String", name := "isEmpty", desc := "()Z" } : Jvm.MethodName) jdk_42_method_55_code (1 : Nat) (Option.some Jvm.ClassFile.FieldType.boolean)]
set_option maxRecDepth 65536 in
theorem codes_eq : words1.filter isCode = codes1 := rfl
theorem w_codes : ∀ c ∈ words1.filter isCode, c.before args0 about1 = true := by
  rw [codes_eq]
  intro c hc
  simp only [codes1, List.mem_cons, List.not_mem_nil, or_false] at hc
  rcases hc with rfl | rfl | rfl | rfl | rfl | rfl | rfl | rfl | rfl | rfl | rfl | rfl | rfl | rfl | rfl
  · exact w_c0
  · exact w_c1
  · exact w_c2
  · exact w_c3
  · exact w_c4
  · exact w_c5
  · exact w_c6
  · exact w_c7
  · exact w_c8
  · exact w_c9
  · exact w_c10
  · exact w_c11
  · exact w_c12
  · exact w_c13
  · exact w_c14
set_option maxRecDepth 65536 in
theorem w_t1 : (words1.take 24).all (fun c => isCode c || c.before args0 about1) = true := by decide +kernel
set_option maxRecDepth 65536 in
theorem w_t2 : ((words1.drop 24).take 24).all (fun c => isCode c || c.before args0 about1) = true := by decide +kernel
set_option maxRecDepth 65536 in
theorem w_t3 : (((words1.drop 24).drop 24).take 24).all (fun c => isCode c || c.before args0 about1) = true := by decide +kernel
set_option maxRecDepth 65536 in
theorem w_t4 : (((words1.drop 24).drop 24).drop 24).all (fun c => isCode c || c.before args0 about1) = true := by decide +kernel
theorem w_tables : (allAtoms (Jvm.Cond.code x code maxLocals ret :: tables_1)).before args0 about1 = true := by
  rw [allAtoms_all]
  show words1.all (fun c => c.before args0 about1) = true
  refine all_split ?_ w_codes
  rw [← List.take_append_drop 24 words1, List.all_append, w_t1, ← List.take_append_drop 24 (words1.drop 24), List.all_append, w_t2, ← List.take_append_drop 24 ((words1.drop 24).drop 24), List.all_append, w_t3, w_t4]
  rfl
set_option maxRecDepth 65536 in
theorem w_rest : rest_1_c.before args0 about1 = true := by decide +kernel
set_option maxRecDepth 65536 in
theorem w_case : (Jvm.Cond.and given_1 narrow_1).before args0 about1 = true := by decide +kernel
set_option maxRecDepth 65536 in
theorem w_consts : constsHeld consts_1 about1 := Jvm.Lit.constsHeldB_iff.mp (by decide +kernel)
theorem w_applies : (headSpec (Jvm.Cond.code x code maxLocals ret :: tables_1) room_1).applies x e0.platform about1 = true :=
  (Spec.applies_iff w_frames).mpr ⟨w_running, w_runnable, w_alone, w_named, w_hears, w_ripe, w_room, w_tables⟩
theorem atStart : AtStart classFile x code maxLocals ret World_1 tables_1 room_1 Calls_1 rest_1 Pre_1 launch0 p0 e0 about1 theMethod args0 below0 :=
  ⟨lists_1, trivial, launch0.admits_env _ _ _, launch0.least_env, fairChoices_fair.cas, fairChoices_fair.clock, w_frames, w_args, w_heap, w_applies, ⟨w_consts, trivial⟩, w_rest, w_case⟩
end start1
theorem witness_1 : WitnessClaimed_1 := ⟨start1.p0, start1.e0, start1.about1, start1.theMethod, start1.args0, start1.below0, start1.atStart⟩
end Jvm.Pilot.@@N@@
