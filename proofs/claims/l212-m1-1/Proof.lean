import JvmDerived
import JvmDerived.Pilot.@@N@@Statement
import JvmDerived.Pilot.@@N@@Code
set_option linter.unusedVariables false
set_option linter.unusedSimpArgs false
namespace Jvm.OwnK
open Sem ClassFile Op Lib Jvm.Stand Jvm.Free Jvm.LawKit Jvm.RoadKit
/-- from cur the body's run returns; Q holds of what it returns, the heap then, the places written; F of the end -/
def EndG (p : Program) (e : Env) (below : List Frame) (F : Outcome → State → List Loc → Prop) (Q : Option Value → Heap → List Loc → Prop) (cur : State) : Prop :=
  ∃ s₂ o, Steps p.tables e below cur s₂ ∧ s₂.status = .running ∧ Ended s₂ below o ∧ ∃ v L, o = .returned v ∧ Q v s₂.heap L ∧ F o s₂ L
abbrev End (p : Program) (e : Env) (below : List Frame) (s : State) (Q : Option Value → Heap → List Loc → Prop) (cl sl : Nat) (cur : State) : Prop := EndG p e below (fun o t L => FrameEnd s o t L cl sl) Q cur
/-- a body's contract: entered with the arguments 'as' at the heap h (tables warmer than Z's) it returns, and Q holds -/
def Con (l : Launch) (Z : State) (y : MethodName) (bytes : ByteArray) (maxL : Nat) (ret : Option FieldType) (ws : List Cond) (rm : Room) (as : Array Value) (h : Heap) (Q : Option Value → Heap → List Loc → Prop) : Prop :=
  MetFree l y (head1 (Cond.code y bytes maxL ret :: ws) rm) (fun a U => a = as ∧ Z.Warmed39 U.vm ∧ U.heap = h) (fun _ _ _ _ _ => True) (fun _ U o U' => ∃ v L, o = .returned v ∧ Q v U'.heap L ∧ FrameEnd U o U' L rm.cells rm.slots)
theorem retI_eq {a b : Int32} (h : b = a) : (some (Value.int a) : Option Value) = some (.int b) := by rw [h]
theorem retJ_eq {a b : Int64} (h : b = a) : (some (Value.long a) : Option Value) = some (.long b) := by rw [h]
theorem retD_eq {a b : UInt64} (h : b = a) : (some (Value.double a) : Option Value) = some (.double b) := by rw [h]
section Steps
variable {p : Program} {l : Launch} {e : Env} {R : Room} {s : State} {m : MethodId} {args : Array Value} {below : List Frame} {meth : Method} {c : Code} {T : State} {locs : List Loc} {cells slots : Nat} {Fe : Outcome → State → List Loc → Prop} {Q : Option Value → Heap → List Loc → Prop} {cl sl : Nat} {pc q : Nat} {Ls : Array Slot} {rest : List Value}
theorem EndG.st {cur nxt : State} (k : EndG p e below Fe Q nxt) (st : ∀ t, Steps p.tables e below nxt t → Steps p.tables e below cur t) : EndG p e below Fe Q cur := by
  obtain ⟨s₂, o, h1, r⟩ := k; exact ⟨s₂, o, st _ h1, r⟩
theorem EndG.tr {cur nxt : State} (k : EndG p e below Fe Q nxt) (st : Steps p.tables e below cur nxt) : EndG p e below Fe Q cur := by
  obtain ⟨s₂, o, h1, r⟩ := k; exact ⟨s₂, o, st.trans h1, r⟩
theorem End.cast {g g' : JFrame} (k : EndG p e below Fe Q (T.setTop g')) (h : g = g') : EndG p e below Fe Q (T.setTop g) := h ▸ k
theorem Con.of {Z : State} {y : MethodName} {bytes : ByteArray} {maxL : Nat} {ret : Option FieldType} {ws : List Cond} {rm : Room} {as : Array Value} {h : Heap} (hpl : plainFor y = true)
    (body : ∀ (p : Program) (e : Env) (s : State) (m : MethodId) (below : List Frame) (meth : Method) (c : Code) (s₁ : State), Stand p l e rm s m as below meth c s₁ [] 0 0 → p.tables.exec = Jvm.exec → c.code = bytes → c.maxLocals = maxL → s.vm.findClass y.cls = some m.cls → meth.name = y.name → meth.sig.returnType = ret → meth.locks = false → Z.Warmed39 s.vm → s₁.heap = h → End p e below s Q rm.cells rm.slots (s₁.setTop (entryFrame m as maxL))) :
    Con l Z y bytes maxL ret ws rm as h Q := by
  refine MetFree.of_bodySF hpl hisR ?_
  intro p e s m args below meth c s₁ Bd hml hP hK
  obtain ⟨rfl, hZ, hh⟩ := hP
  obtain ⟨s₂, o, h1, h2, h3, v, L, h4, h5, h6⟩ := body p e s m below meth c s₁ (Stand.of_body Bd) Bd.exec Bd.bytes hml (findClass_of_methodNamed Bd.named) (name_of_methodNamed Bd.named Bd.method).1 Bd.returns Bd.notSynchronized hZ (by rw [← hh, Bd.state]; rfl)
  exact ⟨s₂, o, h1, h2, h3, v, L, h4, h5, h6⟩
theorem Con.mono {Z : State} {y : MethodName} {bytes : ByteArray} {maxL : Nat} {ret : Option FieldType} {ws : List Cond} {rm : Room} {as : Array Value} {h : Heap} {Q' : Option Value → Heap → List Loc → Prop} (k : Con l Z y bytes maxL ret ws rm as h Q) (hQ : ∀ v hh L, Q v hh L → Q' v hh L) : Con l Z y bytes maxL ret ws rm as h Q' := by
  intro p e ha hc hk s m args below hf happ hP hK
  obtain ⟨n, o, h1, h2, h3, v, L, h4, h5, h6⟩ := k p e ha hc hk s m args below hf happ hP hK
  exact ⟨n, o, h1, h2, h3, v, L, h4, hQ _ _ _ h5, h6⟩
theorem k_iloadN (X : Stand p l e R s m args below meth c T locs cells slots) (hx : p.tables.exec = Jvm.exec) {j : Fin 4} {v : Int32} (hq : pc + 1 = q) (hd : decode c.code pc = .ok (.iload_n j, 1)) (hl : Ls[j.val]? = some (.val (.int v))) (k : EndG p e below Fe Q (T.setTop (mkF m q Ls (.int v :: rest)))) : EndG p e below Fe Q (T.setTop (mkF m pc Ls (rest))) := by
  subst hq; exact k.st fun t w => XS.iloadN X.here hx rfl hd hl w
theorem k_iload (X : Stand p l e R s m args below meth c T locs cells slots) (hx : p.tables.exec = Jvm.exec) {j : Nat} {v : Int32} (hq : pc + 2 = q) (hd : decode c.code pc = .ok (.iload j, 2)) (hl : Ls[j]? = some (.val (.int v))) (k : EndG p e below Fe Q (T.setTop (mkF m q Ls (.int v :: rest)))) : EndG p e below Fe Q (T.setTop (mkF m pc Ls (rest))) := by
  subst hq; exact k.st fun t w => XS.iload X.here hx rfl hd hl w
theorem k_istore (X : Stand p l e R s m args below meth c T locs cells slots) (hx : p.tables.exec = Jvm.exec) {j : Nat} {v : Int32} {L' : Array Slot} (hq : pc + 2 = q) (hd : decode c.code pc = .ok (.istore j, 2)) (hl : storeLocals Ls j (.int v) = some L') (k : EndG p e below Fe Q (T.setTop (mkF m q L' (rest)))) : EndG p e below Fe Q (T.setTop (mkF m pc Ls (.int v :: rest))) := by
  subst hq; exact k.st fun t w => XS.istore X.here hx rfl hd rfl hl w
theorem k_lloadN (X : Stand p l e R s m args below meth c T locs cells slots) (hx : p.tables.exec = Jvm.exec) {j : Fin 4} {v : Int64} (hq : pc + 1 = q) (hd : decode c.code pc = .ok (.lload_n j, 1)) (hl : Ls[j.val]? = some (.val (.long v))) (k : EndG p e below Fe Q (T.setTop (mkF m q Ls (.long v :: rest)))) : EndG p e below Fe Q (T.setTop (mkF m pc Ls (rest))) := by
  subst hq; exact k.st fun t w => XS.lloadN X.here hx rfl hd hl w
theorem k_aloadN (X : Stand p l e R s m args below meth c T locs cells slots) (hx : p.tables.exec = Jvm.exec) {j : Fin 4} {v : Value} (hq : pc + 1 = q) (hd : decode c.code pc = .ok (.aload_n j, 1)) (hl : Ls[j.val]? = some (.val v)) (hv : v.isRef = true) (k : EndG p e below Fe Q (T.setTop (mkF m q Ls (v :: rest)))) : EndG p e below Fe Q (T.setTop (mkF m pc Ls (rest))) := by
  subst hq; exact k.st fun t w => XS.aloadN X.here hx rfl hd hl hv w
theorem k_aload (X : Stand p l e R s m args below meth c T locs cells slots) (hx : p.tables.exec = Jvm.exec) {j : Nat} {v : Value} (hq : pc + 2 = q) (hd : decode c.code pc = .ok (.aload j, 2)) (hl : Ls[j]? = some (.val v)) (hv : v.isRef = true) (k : EndG p e below Fe Q (T.setTop (mkF m q Ls (v :: rest)))) : EndG p e below Fe Q (T.setTop (mkF m pc Ls (rest))) := by
  subst hq; exact k.st fun t w => XS.aload X.here hx rfl hd hl hv w
theorem k_astoreN (X : Stand p l e R s m args below meth c T locs cells slots) (hx : p.tables.exec = Jvm.exec) {j : Fin 4} {v : Value} {L' : Array Slot} (hq : pc + 1 = q) (hd : decode c.code pc = .ok (.astore_n j, 1)) (hv : v.isRef = true) (hl : storeLocals Ls j.val v = some L') (k : EndG p e below Fe Q (T.setTop (mkF m q L' (rest)))) : EndG p e below Fe Q (T.setTop (mkF m pc Ls (v :: rest))) := by
  subst hq; exact k.st fun t w => XS.astoreN X.here hx rfl hd rfl hv hl w
theorem k_astore (X : Stand p l e R s m args below meth c T locs cells slots) (hx : p.tables.exec = Jvm.exec) {j : Nat} {v : Value} {L' : Array Slot} (hq : pc + 2 = q) (hd : decode c.code pc = .ok (.astore j, 2)) (hv : v.isRef = true) (hl : storeLocals Ls j v = some L') (k : EndG p e below Fe Q (T.setTop (mkF m q L' (rest)))) : EndG p e below Fe Q (T.setTop (mkF m pc Ls (v :: rest))) := by
  subst hq; exact k.st fun t w => XS.astore X.here hx rfl hd rfl hv hl w
theorem k_iconst (X : Stand p l e R s m args below meth c T locs cells slots) (hx : p.tables.exec = Jvm.exec) {i : Int} {v : Int32} (hv : Int32.ofInt i = v) (hq : pc + 1 = q) (hd : decode c.code pc = .ok (.iconst i, 1)) (k : EndG p e below Fe Q (T.setTop (mkF m q Ls (.int v :: rest)))) : EndG p e below Fe Q (T.setTop (mkF m pc Ls (rest))) := by
  subst hq hv; exact k.st fun t w => XS.iconst X.here hx rfl hd w
theorem k_bipush (X : Stand p l e R s m args below meth c T locs cells slots) (hx : p.tables.exec = Jvm.exec) {i : Int} {v : Int32} (hv : (Int8.ofInt i).toInt32 = v) (hq : pc + 2 = q) (hd : decode c.code pc = .ok (.bipush i, 2)) (k : EndG p e below Fe Q (T.setTop (mkF m q Ls (.int v :: rest)))) : EndG p e below Fe Q (T.setTop (mkF m pc Ls (rest))) := by
  subst hq hv; exact k.st fun t w => XS.bipush X.here hx rfl hd w
theorem k_sipush (X : Stand p l e R s m args below meth c T locs cells slots) (hx : p.tables.exec = Jvm.exec) {i : Int} {v : Int32} (hv : (Int16.ofInt i).toInt32 = v) (hq : pc + 3 = q) (hd : decode c.code pc = .ok (.sipush i, 3)) (k : EndG p e below Fe Q (T.setTop (mkF m q Ls (.int v :: rest)))) : EndG p e below Fe Q (T.setTop (mkF m pc Ls (rest))) := by
  subst hq hv; exact k.st fun t w => XS.sipush X.here hx rfl hd w
theorem k_aconst_null (X : Stand p l e R s m args below meth c T locs cells slots) (hx : p.tables.exec = Jvm.exec) (hq : pc + 1 = q) (hd : decode c.code pc = .ok (.aconst_null, 1)) (k : EndG p e below Fe Q (T.setTop (mkF m q Ls (.null :: rest)))) : EndG p e below Fe Q (T.setTop (mkF m pc Ls (rest))) := by
  subst hq; exact k.st fun t w => XS.aconstNull X.here hx rfl hd w
theorem k_iadd (X : Stand p l e R s m args below meth c T locs cells slots) (hx : p.tables.exec = Jvm.exec) {x y : Int32} (hq : pc + 1 = q) (hd : decode c.code pc = .ok (.iadd, 1)) (k : EndG p e below Fe Q (T.setTop (mkF m q Ls (.int (x + y) :: rest)))) : EndG p e below Fe Q (T.setTop (mkF m pc Ls (.int y :: .int x :: rest))) := by
  subst hq; exact k.st fun t w => XS.iadd X.here hx rfl hd rfl w
theorem k_isub (X : Stand p l e R s m args below meth c T locs cells slots) (hx : p.tables.exec = Jvm.exec) {x y : Int32} (hq : pc + 1 = q) (hd : decode c.code pc = .ok (.isub, 1)) (k : EndG p e below Fe Q (T.setTop (mkF m q Ls (.int (x - y) :: rest)))) : EndG p e below Fe Q (T.setTop (mkF m pc Ls (.int y :: .int x :: rest))) := by
  subst hq; exact k.st fun t w => XS.isub X.here hx rfl hd rfl w
theorem k_lmul (X : Stand p l e R s m args below meth c T locs cells slots) (hx : p.tables.exec = Jvm.exec) {x y : Int64} (hq : pc + 1 = q) (hd : decode c.code pc = .ok (.lmul, 1)) (k : EndG p e below Fe Q (T.setTop (mkF m q Ls (.long (x * y) :: rest)))) : EndG p e below Fe Q (T.setTop (mkF m pc Ls (.long y :: .long x :: rest))) := by
  subst hq; exact k.st fun t w => XS.lmul X.here hx rfl hd rfl w
theorem k_iand (X : Stand p l e R s m args below meth c T locs cells slots) (hx : p.tables.exec = Jvm.exec) {x y : Int32} (hq : pc + 1 = q) (hd : decode c.code pc = .ok (.iand, 1)) (k : EndG p e below Fe Q (T.setTop (mkF m q Ls (.int (x &&& y) :: rest)))) : EndG p e below Fe Q (T.setTop (mkF m pc Ls (.int y :: .int x :: rest))) := by
  subst hq; exact k.st fun t w => XS.iand X.here hx rfl hd rfl w
theorem k_idiv (X : Stand p l e R s m args below meth c T locs cells slots) (hx : p.tables.exec = Jvm.exec) {x y : Int32} (hq : pc + 1 = q) (hd : decode c.code pc = .ok (.idiv, 1)) (hy : y ≠ 0) (k : EndG p e below Fe Q (T.setTop (mkF m q Ls (.int (x / y) :: rest)))) : EndG p e below Fe Q (T.setTop (mkF m pc Ls (.int y :: .int x :: rest))) := by
  subst hq; exact k.st fun t w => XS.idiv X.here hx rfl hd rfl hy w
theorem k_irem (X : Stand p l e R s m args below meth c T locs cells slots) (hx : p.tables.exec = Jvm.exec) {x y : Int32} (hq : pc + 1 = q) (hd : decode c.code pc = .ok (.irem, 1)) (hy : y ≠ 0) (k : EndG p e below Fe Q (T.setTop (mkF m q Ls (.int (x % y) :: rest)))) : EndG p e below Fe Q (T.setTop (mkF m pc Ls (.int y :: .int x :: rest))) := by
  subst hq; exact k.st fun t w => iremM X hx rfl hd rfl hy w
theorem k_lushr (X : Stand p l e R s m args below meth c T locs cells slots) (hx : p.tables.exec = Jvm.exec) {x : Int64} {y : Int32} (hq : pc + 1 = q) (hd : decode c.code pc = .ok (.lushr, 1)) (k : EndG p e below Fe Q (T.setTop (mkF m q Ls (.long ((x.toUInt64 >>> (y &&& 0x3f).toInt64.toUInt64).toInt64) :: rest)))) : EndG p e below Fe Q (T.setTop (mkF m pc Ls (.int y :: .long x :: rest))) := by
  subst hq; exact k.st fun t w => XS.lushr X.here hx rfl hd rfl w
theorem k_i2l (X : Stand p l e R s m args below meth c T locs cells slots) (hx : p.tables.exec = Jvm.exec) {x : Int32} (hq : pc + 1 = q) (hd : decode c.code pc = .ok (.i2l, 1)) (k : EndG p e below Fe Q (T.setTop (mkF m q Ls (.long x.toInt64 :: rest)))) : EndG p e below Fe Q (T.setTop (mkF m pc Ls (.int x :: rest))) := by
  subst hq; exact k.st fun t w => XS.i2l X.here hx rfl hd rfl w
theorem k_l2i (X : Stand p l e R s m args below meth c T locs cells slots) (hx : p.tables.exec = Jvm.exec) {x : Int64} (hq : pc + 1 = q) (hd : decode c.code pc = .ok (.l2i, 1)) (k : EndG p e below Fe Q (T.setTop (mkF m q Ls (.int x.toInt32 :: rest)))) : EndG p e below Fe Q (T.setTop (mkF m pc Ls (.long x :: rest))) := by
  subst hq; exact k.st fun t w => XS.l2i X.here hx rfl hd rfl w
theorem k_i2b (X : Stand p l e R s m args below meth c T locs cells slots) (hx : p.tables.exec = Jvm.exec) {x : Int32} (hq : pc + 1 = q) (hd : decode c.code pc = .ok (.i2b, 1)) (k : EndG p e below Fe Q (T.setTop (mkF m q Ls (.int x.toInt8.toInt32 :: rest)))) : EndG p e below Fe Q (T.setTop (mkF m pc Ls (.int x :: rest))) := by
  subst hq; exact k.st fun t w => XS.i2b X.here hx rfl hd rfl w
theorem k_dup (X : Stand p l e R s m args below meth c T locs cells slots) (hx : p.tables.exec = Jvm.exec) {x : Value} (hq : pc + 1 = q) (hd : decode c.code pc = .ok (.dup, 1)) (hc : x.category = 1) (k : EndG p e below Fe Q (T.setTop (mkF m q Ls (x :: x :: rest)))) : EndG p e below Fe Q (T.setTop (mkF m pc Ls (x :: rest))) := by
  subst hq; exact k.st fun t w => XS.dup X.here hx rfl hd rfl hc w
theorem k_goto (X : Stand p l e R s m args below meth c T locs cells slots) (hx : p.tables.exec = Jvm.exec) {o : Int} (ho : 0 ≤ (pc : Int) + o) (hp : ((pc : Int) + o).toNat = q) (hd : decode c.code pc = .ok (.goto o, 3)) (k : EndG p e below Fe Q (T.setTop (mkF m q Ls (rest)))) : EndG p e below Fe Q (T.setTop (mkF m pc Ls (rest))) :=
  k.st fun t w => XS.goto X.here hx rfl (pc0 := pc) (pc' := q) rfl hd ho hp w
theorem k_icmp_eq (X : Stand p l e R s m args below meth c T locs cells slots) (hx : p.tables.exec = Jvm.exec) {x y : Int32} {o : Int} {q1 : Nat} (ho : 0 ≤ (pc : Int) + o) (hp : ((pc : Int) + o).toNat = q1) (hq : pc + 3 = q) (hd : decode c.code pc = .ok (.if_icmp .eq o, 3)) (kt : x = y → EndG p e below Fe Q (T.setTop (mkF m q1 Ls (rest)))) (kf : ¬ x = y → EndG p e below Fe Q (T.setTop (mkF m q Ls (rest)))) : EndG p e below Fe Q (T.setTop (mkF m pc Ls (.int y :: .int x :: rest))) := by
  by_cases h : x = y
  · exact (kt h).st fun t w => XS.icmpYes X.here hx rfl (pc0 := pc) (pc' := q1) rfl hd rfl (XT.ii_eq_t h) ho hp w
  · subst hq; exact (kf h).st fun t w => XS.icmpNo X.here hx rfl hd rfl (XT.ii_eq_f h) w
theorem k_if_eq (X : Stand p l e R s m args below meth c T locs cells slots) (hx : p.tables.exec = Jvm.exec) {x : Int32} {o : Int} {q1 : Nat} (ho : 0 ≤ (pc : Int) + o) (hp : ((pc : Int) + o).toNat = q1) (hq : pc + 3 = q) (hd : decode c.code pc = .ok (.ifCond .eq o, 3)) (kt : x = 0 → EndG p e below Fe Q (T.setTop (mkF m q1 Ls (rest)))) (kf : ¬ x = 0 → EndG p e below Fe Q (T.setTop (mkF m q Ls (rest)))) : EndG p e below Fe Q (T.setTop (mkF m pc Ls (.int x :: rest))) := by
  by_cases h : x = 0
  · exact (kt h).st fun t w => XS.ifYes X.here hx rfl (pc0 := pc) (pc' := q1) rfl hd rfl (XT.i0_eq_t h) ho hp w
  · subst hq; exact (kf h).st fun t w => XS.ifNo X.here hx rfl hd rfl (XT.i0_eq_f h) w
theorem k_icmp_ne (X : Stand p l e R s m args below meth c T locs cells slots) (hx : p.tables.exec = Jvm.exec) {x y : Int32} {o : Int} {q1 : Nat} (ho : 0 ≤ (pc : Int) + o) (hp : ((pc : Int) + o).toNat = q1) (hq : pc + 3 = q) (hd : decode c.code pc = .ok (.if_icmp .ne o, 3)) (kt : ¬ x = y → EndG p e below Fe Q (T.setTop (mkF m q1 Ls (rest)))) (kf : x = y → EndG p e below Fe Q (T.setTop (mkF m q Ls (rest)))) : EndG p e below Fe Q (T.setTop (mkF m pc Ls (.int y :: .int x :: rest))) := by
  by_cases h : x = y
  · subst hq; exact (kf h).st fun t w => XS.icmpNo X.here hx rfl hd rfl (XT.ii_ne_f h) w
  · exact (kt h).st fun t w => XS.icmpYes X.here hx rfl (pc0 := pc) (pc' := q1) rfl hd rfl (XT.ii_ne_t h) ho hp w
theorem k_if_ne (X : Stand p l e R s m args below meth c T locs cells slots) (hx : p.tables.exec = Jvm.exec) {x : Int32} {o : Int} {q1 : Nat} (ho : 0 ≤ (pc : Int) + o) (hp : ((pc : Int) + o).toNat = q1) (hq : pc + 3 = q) (hd : decode c.code pc = .ok (.ifCond .ne o, 3)) (kt : ¬ x = 0 → EndG p e below Fe Q (T.setTop (mkF m q1 Ls (rest)))) (kf : x = 0 → EndG p e below Fe Q (T.setTop (mkF m q Ls (rest)))) : EndG p e below Fe Q (T.setTop (mkF m pc Ls (.int x :: rest))) := by
  by_cases h : x = 0
  · subst hq; exact (kf h).st fun t w => XS.ifNo X.here hx rfl hd rfl (XT.i0_ne_f h) w
  · exact (kt h).st fun t w => XS.ifYes X.here hx rfl (pc0 := pc) (pc' := q1) rfl hd rfl (XT.i0_ne_t h) ho hp w
theorem k_icmp_lt (X : Stand p l e R s m args below meth c T locs cells slots) (hx : p.tables.exec = Jvm.exec) {x y : Int32} {o : Int} {q1 : Nat} (ho : 0 ≤ (pc : Int) + o) (hp : ((pc : Int) + o).toNat = q1) (hq : pc + 3 = q) (hd : decode c.code pc = .ok (.if_icmp .lt o, 3)) (kt : x < y → EndG p e below Fe Q (T.setTop (mkF m q1 Ls (rest)))) (kf : ¬ x < y → EndG p e below Fe Q (T.setTop (mkF m q Ls (rest)))) : EndG p e below Fe Q (T.setTop (mkF m pc Ls (.int y :: .int x :: rest))) := by
  by_cases h : x < y
  · exact (kt h).st fun t w => XS.icmpYes X.here hx rfl (pc0 := pc) (pc' := q1) rfl hd rfl (XT.ii_lt_t h) ho hp w
  · subst hq; exact (kf h).st fun t w => XS.icmpNo X.here hx rfl hd rfl (XT.ii_lt_f h) w
theorem k_lcmp_lt (X : Stand p l e R s m args below meth c T locs cells slots) (hx : p.tables.exec = Jvm.exec) {x y : Int64} {o : Int} {q1 : Nat} (ho : 0 ≤ ((pc + 1 : Nat) : Int) + o) (hp : (((pc + 1 : Nat) : Int) + o).toNat = q1) (hq : pc + 1 + 3 = q) (hd0 : decode c.code pc = .ok (.lcmp, 1)) (hd : decode c.code (pc + 1) = .ok (.ifCond .lt o, 3)) (kt : x < y → EndG p e below Fe Q (T.setTop (mkF m q1 Ls (rest)))) (kf : ¬ x < y → EndG p e below Fe Q (T.setTop (mkF m q Ls (rest)))) : EndG p e below Fe Q (T.setTop (mkF m pc Ls (.long y :: .long x :: rest))) := by
  by_cases h : x < y
  · exact (kt h).st fun t w => XT.lcmp X.here hx rfl hd0 rfl <| XS.ifYes X.here hx rfl (pc0 := pc + 1) (pc' := q1) rfl hd rfl (XT.ll_lt_t h) ho hp w
  · subst hq; exact (kf h).st fun t w => XT.lcmp X.here hx rfl hd0 rfl <| XS.ifNo X.here hx rfl hd rfl (XT.ll_lt_f h) w
theorem k_icmp_ge (X : Stand p l e R s m args below meth c T locs cells slots) (hx : p.tables.exec = Jvm.exec) {x y : Int32} {o : Int} {q1 : Nat} (ho : 0 ≤ (pc : Int) + o) (hp : ((pc : Int) + o).toNat = q1) (hq : pc + 3 = q) (hd : decode c.code pc = .ok (.if_icmp .ge o, 3)) (kt : ¬ x < y → EndG p e below Fe Q (T.setTop (mkF m q1 Ls (rest)))) (kf : x < y → EndG p e below Fe Q (T.setTop (mkF m q Ls (rest)))) : EndG p e below Fe Q (T.setTop (mkF m pc Ls (.int y :: .int x :: rest))) := by
  by_cases h : x < y
  · subst hq; exact (kf h).st fun t w => XS.icmpNo X.here hx rfl hd rfl (XT.ii_ge_f h) w
  · exact (kt h).st fun t w => XS.icmpYes X.here hx rfl (pc0 := pc) (pc' := q1) rfl hd rfl (XT.ii_ge_t h) ho hp w
theorem k_icmp_gt (X : Stand p l e R s m args below meth c T locs cells slots) (hx : p.tables.exec = Jvm.exec) {x y : Int32} {o : Int} {q1 : Nat} (ho : 0 ≤ (pc : Int) + o) (hp : ((pc : Int) + o).toNat = q1) (hq : pc + 3 = q) (hd : decode c.code pc = .ok (.if_icmp .gt o, 3)) (kt : y < x → EndG p e below Fe Q (T.setTop (mkF m q1 Ls (rest)))) (kf : ¬ y < x → EndG p e below Fe Q (T.setTop (mkF m q Ls (rest)))) : EndG p e below Fe Q (T.setTop (mkF m pc Ls (.int y :: .int x :: rest))) := by
  by_cases h : y < x
  · exact (kt h).st fun t w => XS.icmpYes X.here hx rfl (pc0 := pc) (pc' := q1) rfl hd rfl (XT.ii_gt_t h) ho hp w
  · subst hq; exact (kf h).st fun t w => XS.icmpNo X.here hx rfl hd rfl (XT.ii_gt_f h) w
theorem k_lcmp_gt (X : Stand p l e R s m args below meth c T locs cells slots) (hx : p.tables.exec = Jvm.exec) {x y : Int64} {o : Int} {q1 : Nat} (ho : 0 ≤ ((pc + 1 : Nat) : Int) + o) (hp : (((pc + 1 : Nat) : Int) + o).toNat = q1) (hq : pc + 1 + 3 = q) (hd0 : decode c.code pc = .ok (.lcmp, 1)) (hd : decode c.code (pc + 1) = .ok (.ifCond .gt o, 3)) (kt : y < x → EndG p e below Fe Q (T.setTop (mkF m q1 Ls (rest)))) (kf : ¬ y < x → EndG p e below Fe Q (T.setTop (mkF m q Ls (rest)))) : EndG p e below Fe Q (T.setTop (mkF m pc Ls (.long y :: .long x :: rest))) := by
  by_cases h : y < x
  · exact (kt h).st fun t w => XT.lcmp X.here hx rfl hd0 rfl <| XS.ifYes X.here hx rfl (pc0 := pc + 1) (pc' := q1) rfl hd rfl (XT.ll_gt_t h) ho hp w
  · subst hq; exact (kf h).st fun t w => XT.lcmp X.here hx rfl hd0 rfl <| XS.ifNo X.here hx rfl hd rfl (XT.ll_gt_f h) w
theorem k_icmp_le (X : Stand p l e R s m args below meth c T locs cells slots) (hx : p.tables.exec = Jvm.exec) {x y : Int32} {o : Int} {q1 : Nat} (ho : 0 ≤ (pc : Int) + o) (hp : ((pc : Int) + o).toNat = q1) (hq : pc + 3 = q) (hd : decode c.code pc = .ok (.if_icmp .le o, 3)) (kt : ¬ y < x → EndG p e below Fe Q (T.setTop (mkF m q1 Ls (rest)))) (kf : y < x → EndG p e below Fe Q (T.setTop (mkF m q Ls (rest)))) : EndG p e below Fe Q (T.setTop (mkF m pc Ls (.int y :: .int x :: rest))) := by
  by_cases h : y < x
  · subst hq; exact (kf h).st fun t w => XS.icmpNo X.here hx rfl hd rfl (XT.ii_le_f h) w
  · exact (kt h).st fun t w => XS.icmpYes X.here hx rfl (pc0 := pc) (pc' := q1) rfl hd rfl (XT.ii_le_t h) ho hp w
theorem k_if_le (X : Stand p l e R s m args below meth c T locs cells slots) (hx : p.tables.exec = Jvm.exec) {x : Int32} {o : Int} {q1 : Nat} (ho : 0 ≤ (pc : Int) + o) (hp : ((pc : Int) + o).toNat = q1) (hq : pc + 3 = q) (hd : decode c.code pc = .ok (.ifCond .le o, 3)) (kt : ¬ 0 < x → EndG p e below Fe Q (T.setTop (mkF m q1 Ls (rest)))) (kf : 0 < x → EndG p e below Fe Q (T.setTop (mkF m q Ls (rest)))) : EndG p e below Fe Q (T.setTop (mkF m pc Ls (.int x :: rest))) := by
  by_cases h : 0 < x
  · subst hq; exact (kf h).st fun t w => XS.ifNo X.here hx rfl hd rfl (XT.i0_le_f h) w
  · exact (kt h).st fun t w => XS.ifYes X.here hx rfl (pc0 := pc) (pc' := q1) rfl hd rfl (XT.i0_le_t h) ho hp w
theorem k_acmp_y (X : Stand p l e R s m args below meth c T locs cells slots) (hx : p.tables.exec = Jvm.exec) {cd : ACond} {o : Int} {x y : Value} (ho : 0 ≤ (pc : Int) + o) (hp : ((pc : Int) + o).toNat = q) (hd : decode c.code pc = .ok (.if_acmp cd o, 3)) (hx' : x.isRef = true) (hy' : y.isRef = true) (hc : XT.acmp cd x y = true) (k : EndG p e below Fe Q (T.setTop (mkF m q Ls (rest)))) : EndG p e below Fe Q (T.setTop (mkF m pc Ls (y :: x :: rest))) :=
  k.st fun t w => XT.acmpYes X.here hx rfl (pc0 := pc) (pc' := q) rfl hd rfl hx' hy' hc ho hp w
theorem k_acmp_n (X : Stand p l e R s m args below meth c T locs cells slots) (hx : p.tables.exec = Jvm.exec) {cd : ACond} {o : Int} {x y : Value} (hq : pc + 3 = q) (hd : decode c.code pc = .ok (.if_acmp cd o, 3)) (hx' : x.isRef = true) (hy' : y.isRef = true) (hc : XT.acmp cd x y = false) (k : EndG p e below Fe Q (T.setTop (mkF m q Ls (rest)))) : EndG p e below Fe Q (T.setTop (mkF m pc Ls (y :: x :: rest))) := by
  subst hq; exact k.st fun t w => XT.acmpNo X.here hx rfl hd rfl hx' hy' hc w
theorem k_retN (X : Stand p l e R s m args below meth c T locs cells slots) (hx : p.tables.exec = Jvm.exec) {z : Int32} {t : FieldType} (hlk : meth.locks = false) (hcl : cells ≤ cl) (hsl : slots ≤ sl) (hret : meth.sig.returnType = some t) (ht : t = .boolean ∨ t = .byte ∨ t = .char ∨ t = .short) (hd : decode c.code pc = .ok (.ireturn, 1)) (hQ : Q (some (.int (nar t z))) T.heap locs) : End p e below s Q cl sl (T.setTop (mkF m pc Ls (.int z :: rest))) := by
  obtain ⟨fs, hr, hrun, hended, hW, hsame⟩ := X.leave (v := (some (.int (nar t z)))) (fun h => by rw [hret] at h; cases h) hlk
  refine ⟨_, _, ?_, hrun, hended, _, _, rfl, hQ, ⟨_, rfl⟩, hW, hsame.mono hcl hsl⟩
  exact retN X hx hret ht hd hr
theorem k_retI (X : Stand p l e R s m args below meth c T locs cells slots) (hx : p.tables.exec = Jvm.exec) {z : Int32} (hlk : meth.locks = false) (hcl : cells ≤ cl) (hsl : slots ≤ sl) (hret : meth.sig.returnType = some .int) (hd : decode c.code pc = .ok (.ireturn, 1)) (hQ : Q (some (.int z)) T.heap locs) : End p e below s Q cl sl (T.setTop (mkF m pc Ls (.int z :: rest))) := by
  obtain ⟨fs, hr, hrun, hended, hW, hsame⟩ := X.leave (v := (some (.int z))) (fun h => by rw [hret] at h; cases h) hlk
  refine ⟨_, _, ?_, hrun, hended, _, _, rfl, hQ, ⟨_, rfl⟩, hW, hsame.mono hcl hsl⟩
  exact retOut X hx hret rfl (Or.inl ⟨rfl, Or.inl rfl, _, rfl⟩) hd hr
theorem k_retJ (X : Stand p l e R s m args below meth c T locs cells slots) (hx : p.tables.exec = Jvm.exec) {z : Int64} (hlk : meth.locks = false) (hcl : cells ≤ cl) (hsl : slots ≤ sl) (hret : meth.sig.returnType = some .long) (hd : decode c.code pc = .ok (.lreturn, 1)) (hQ : Q (some (.long z)) T.heap locs) : End p e below s Q cl sl (T.setTop (mkF m pc Ls (.long z :: rest))) := by
  obtain ⟨fs, hr, hrun, hended, hW, hsame⟩ := X.leave (v := (some (.long z))) (fun h => by rw [hret] at h; cases h) hlk
  refine ⟨_, _, ?_, hrun, hended, _, _, rfl, hQ, ⟨_, rfl⟩, hW, hsame.mono hcl hsl⟩
  exact retOut X hx hret rfl (Or.inr (Or.inl ⟨rfl, rfl, _, rfl⟩)) hd hr
theorem k_retA (X : Stand p l e R s m args below meth c T locs cells slots) (hx : p.tables.exec = Jvm.exec) {z : Value} {t : FieldType} (hlk : meth.locks = false) (hcl : cells ≤ cl) (hsl : slots ≤ sl) (hret : meth.sig.returnType = some t) (ht : t.isReference = true) (hz : z.isRef = true) (hd : decode c.code pc = .ok (.areturn, 1)) (hQ : Q (some z) T.heap locs) : End p e below s Q cl sl (T.setTop (mkF m pc Ls (z :: rest))) := by
  obtain ⟨fs, hr, hrun, hended, hW, hsame⟩ := X.leave (v := (some z)) (fun h => by rw [hret] at h; cases h) hlk
  refine ⟨_, _, ?_, hrun, hended, _, _, rfl, hQ, ⟨_, rfl⟩, hW, hsame.mono hcl hsl⟩
  exact retOut X hx hret (by cases t <;> first | rfl | (simp [FieldType.isReference] at ht)) (Or.inr (Or.inr (Or.inr (Or.inr ⟨rfl, ht, hz⟩)))) hd hr
theorem k_retV (X : Stand p l e R s m args below meth c T locs cells slots) (hx : p.tables.exec = Jvm.exec)  (hlk : meth.locks = false) (hcl : cells ≤ cl) (hsl : slots ≤ sl) (hret : meth.sig.returnType = none) (hd : decode c.code pc = .ok (.return_, 1)) (hQ : Q none T.heap locs) : End p e below s Q cl sl (T.setTop (mkF m pc Ls ([]))) := by
  obtain ⟨fs, hr, hrun, hended, hW, hsame⟩ := X.leave (v := none) (fun _ => rfl) hlk
  refine ⟨_, _, ?_, hrun, hended, _, _, rfl, hQ, ⟨_, rfl⟩, hW, hsame.mono hcl hsl⟩
  exact X.returnOut hx hret hd hr
variable {Z : State} {a0 : Array Value} {h : Heap}
theorem k_ldcI (X : Stand p l e R s m args below meth c T locs cells slots) (hx : p.tables.exec = Jvm.exec) (hZ : Z.Warmed39 s.vm) {own : String} {index : Nat} {v : Int32} (hown : s.vm.findClass own = some m.cls) (w0 : (Cond.constant own index v).before a0 Z = true) (hq : pc + 2 = q) (hd : decode c.code pc = .ok (.ldc index, 2)) (k : EndG p e below Fe Q (T.setTop (mkF m q Ls (.int v :: rest)))) : EndG p e below Fe Q (T.setTop (mkF m pc Ls (rest))) := by
  subst hq; exact k.st fun t w => X.ldcInt hx hown (mvT hZ w0) (g := (mkF m pc Ls (rest))) rfl hd t w
theorem k_ldc2J (X : Stand p l e R s m args below meth c T locs cells slots) (hx : p.tables.exec = Jvm.exec) (hZ : Z.Warmed39 s.vm) {own : String} {index : Nat} {v : Int64} (hown : s.vm.findClass own = some m.cls) (w0 : (Cond.constantLong own index v).before a0 Z = true) (hq : pc + 3 = q) (hd : decode c.code pc = .ok (.ldc2_w index, 3)) (k : EndG p e below Fe Q (T.setTop (mkF m q Ls (.long v :: rest)))) : EndG p e below Fe Q (T.setTop (mkF m pc Ls (rest))) := by
  subst hq; exact k.st fun t w => X.ldc2Long hx hown (mvT hZ w0) (g := (mkF m pc Ls (rest))) rfl hd t w
theorem k_getF (X : Stand p l e R s m args below meth c T locs cells slots) (hx : p.tables.exec = Jvm.exec) (hZ : Z.Warmed39 s.vm) {own R0 O n d host : String} {index : Nat} (hown : s.vm.findClass own = some m.cls) (w0 : (Cond.fieldLink own index R0 n d).before a0 Z = true ∨ (Cond.fieldLinkNest own index R0 n d host).before a0 Z = true) (via : Via Z R0 O n d) (eT : T.heap = h) {a : Addr} {v : Value} (hq : pc + 3 = q) (hd : decode c.code pc = .ok (.getfield index, 3)) (F : Fld Z h a O n d v) (k : ∀ T', Stand p l e R s m args below meth c T' locs cells slots → T'.heap = h → EndG p e below Fe Q (T'.setTop (mkF m q Ls (v :: rest)))) : EndG p e below Fe Q (T.setTop (mkF m pc Ls (.ref a :: rest))) := by
  subst hq; obtain ⟨T', X', e', st⟩ := getF X hx hZ hown w0 via eT F (g := (mkF m pc Ls (.ref a :: rest))) rfl rfl hd
  exact (k T' X' e').st st
theorem k_putF (X : Stand p l e R s m args below meth c T locs cells slots) (hx : p.tables.exec = Jvm.exec) (hZ : Z.Warmed39 s.vm) {own R0 O n d host C : String} {index kk : Nat} {ty : FieldType} (hown : s.vm.findClass own = some m.cls) (w0 : (Cond.fieldLink own index R0 n d).before a0 Z = true ∨ (Cond.fieldLinkNest own index R0 n d host).before a0 Z = true) (via : Via Z R0 O n d) (eT : T.heap = h) {a : Addr} {v old : Value} (L0 : (Cond.lays C O n d).before a0 Z = true ∨ ((Cond.laysFinal C O n d).before a0 Z = true ∧ own = O ∧ meth.name = "<init>")) (wi : (Cond.instantiable C kk).before a0 Z = true) (hty : parseFieldDescriptor d = some ty) (hn : narrow ty v = v) (hf : fits ty v = true) (hq : pc + 3 = q) (hd : decode c.code pc = .ok (.putfield index, 3)) (F : Fld Z h a O n d old) (E : Exa Z h a C) (k : ∀ T' h', Stand p l e R s m args below meth c T' (locs ++ [⟨a, Jvm.RoadKit.slotOf Z O n d⟩]) cells slots → T'.heap = h' → Wr h h' a (Jvm.RoadKit.slotOf Z O n d) v → EndG p e below Fe Q (T'.setTop (mkF m q Ls (rest)))) : EndG p e below Fe Q (T.setTop (mkF m pc Ls (v :: .ref a :: rest))) := by
  subst hq; obtain ⟨T', h', X', e', W', st⟩ := putF X hx hZ hown w0 via eT F E L0 wi hty hn hf (g := (mkF m pc Ls (v :: .ref a :: rest))) rfl rfl hd
  exact (k T' h' X' e' W').st st
theorem k_new (X : Stand p l e R s m args below meth c T locs cells slots) (hx : p.tables.exec = Jvm.exec) (hZ : Z.Warmed39 s.vm) {own C : String} {index n : Nat} (hown : s.vm.findClass own = some m.cls) (w0 : (Cond.classLink own index C).before a0 Z = true) (wi : (Cond.instantiable C n).before a0 Z = true) (wz : (Cond.initialized C).before a0 Z = true) (eT : T.heap = h) (hq : pc + 3 = q) (hd : decode c.code pc = .ok (.new index, 3)) (hc : cells + 1 ≤ R.cells) (hl : slots + n ≤ R.slots) (k : ∀ T' h' a, Stand p l e R s m args below meth c T' locs (cells + 1) (slots + n) → T'.heap = h' → a = h.size → Ext h h' → Exa Z h' a C → (∀ {O nm d : String} {ty : FieldType}, Laid Z a0 C O nm d → parseFieldDescriptor d = some ty → Fld Z h' a O nm d (defaultValue ty)) → EndG p e below Fe Q (T'.setTop (mkF m q Ls (.ref a :: rest)))) : EndG p e below Fe Q (T.setTop (mkF m pc Ls (rest))) := by
  subst hq; obtain ⟨T', h', X', e', E', A', D', -, st⟩ := newO X hx hZ hown w0 wi wz eT (g := (mkF m pc Ls (rest))) rfl hd hc hl
  exact (k T' h' _ X' e' rfl E' A' D').st st
theorem k_cast (X : Stand p l e R s m args below meth c T locs cells slots) (hx : p.tables.exec = Jvm.exec) (hZ : Z.Warmed39 s.vm) {own K : String} {index : Nat} (hown : s.vm.findClass own = some m.cls) (w0 : (Cond.classLink own index K).before a0 Z = true) (eT : T.heap = h) {a : Addr} (hq : pc + 3 = q) (hd : decode c.code pc = .ok (.checkcast index, 3)) (F : Ins Z h a K true) (k : ∀ T', Stand p l e R s m args below meth c T' locs cells slots → T'.heap = h → EndG p e below Fe Q (T'.setTop (mkF m q Ls (.ref a :: rest)))) : EndG p e below Fe Q (T.setTop (mkF m pc Ls (.ref a :: rest))) := by
  subst hq; obtain ⟨T', X', e', st⟩ := castY X hx hZ hown w0 eT F (g := (mkF m pc Ls (.ref a :: rest))) rfl rfl hd
  exact (k T' X' e').st st
theorem k_initO (X : Stand p l e R s m args below meth c T locs cells slots) (hx : p.tables.exec = Jvm.exec) (hZ : Z.Warmed39 s.vm) {own : String} {index : Nat} (hown : s.vm.findClass own = some m.cls) (w1 : (Cond.methodLink own index Lib.objectInit).before a0 Z = true) (w2 : (Cond.instanceMethod Lib.objectInit).before a0 Z = true) (w3 : (Cond.code Lib.objectInit ⟨#[0xb1]⟩ 1 none).before a0 Z = true) (eT : T.heap = h) {a : Addr} (hq : pc + 3 = q) (hd : decode c.code pc = .ok (.invokespecial index, 3)) (hls : Ls.size = c.maxLocals) (hf : 1 ≤ R.frames) (W : Nat) (hW : 2 * 0 + (rest.map fun v => v.category).sum ≤ W) (hl : W + 12 ≤ R.locals) (k : ∀ T', Stand p l e R s m args below meth c T' locs cells slots → T'.heap = h → EndG p e below Fe Q (T'.setTop (mkF m q Ls (rest)))) : EndG p e below Fe Q (T.setTop (mkF m pc Ls (.ref a :: rest))) := by
  subst hq; obtain ⟨T', X', e', st⟩ := initO X hx hZ hown w1 w2 w3 eT (g := (mkF m pc Ls (.ref a :: rest))) rfl hls rfl hd hf (W := W) hW hl
  exact (k T' X' e').st st
end Steps
/-- the array at a has n places; the place t holds v t -/
def Ary (Z : State) (h : Heap) (a : Addr) (ty : FieldType) (n : Nat) (v : Nat → Value) : Prop := ∃ c : Cell, Arr Z h a c ty ∧ c.slots.size = n ∧ n < 2 ^ 31 ∧ ∀ t, t < n → c.slots[t]? = some (v t)
/-- g, but x at i -/
def upd {α : Type} (g : Nat → α) (i : Nat) (x : α) : Nat → α := fun t => if t = i then x else g t
theorem upd_same {α : Type} (g : Nat → α) (i : Nat) (x : α) : upd g i x i = x := if_pos rfl
theorem upd_other {α : Type} (g : Nat → α) {i t : Nat} (x : α) (q : t ≠ i) : upd g i x t = g t := if_neg q
section Arys
variable {Z : State} {h h' : Heap} {a b : Addr} {ty : FieldType} {n : Nat} {v w : Nat → Value} {sl : Nat} {x : Value} {ws : List Addr}
theorem Ary.lt (F : Ary Z h a ty n v) : a < h.size := by obtain ⟨c, A, -⟩ := F; exact A.lt
theorem Ary.ext (F : Ary Z h a ty n v) (E : Ext h h') : Ary Z h' a ty n v := by obtain ⟨c, A, r⟩ := F; exact ⟨c, A.ext E, r⟩
theorem Ary.other (F : Ary Z h b ty n v) (W : Wr h h' a sl x) (q : b ≠ a) : Ary Z h' b ty n v := by obtain ⟨c, A, r⟩ := F; exact ⟨c, A.other W q, r⟩
theorem Ary.keep (F : Ary Z h a ty n v) (K : Keep h h' ws) (q : a ∉ ws) : Ary Z h' a ty n v := by obtain ⟨c, A, r⟩ := F; exact ⟨c, ⟨K.2.1 a c A.1 q, A.2⟩, r⟩
theorem Ary.same (F : Ary Z h a ty n v) (W : Wr h h' a sl x) : Ary Z h' a ty n (fun t => if t = sl then x else v t) := by
  obtain ⟨c, A, S, B, H⟩ := F
  refine ⟨_, A.same W, by rw [sz_set, S], B, fun t ht => ?_⟩
  by_cases q : t = sl
  · subst q; simp [Cell.setSlot, S, ht]
  · simp only [if_neg q, Cell.setSlot]; rw [Array.getElem?_setIfInBounds_ne (Ne.symm q)]; exact H t ht
theorem Ary.congr (F : Ary Z h a ty n v) (q : ∀ t, t < n → v t = w t) : Ary Z h a ty n w := by obtain ⟨c, A, S, B, H⟩ := F; exact ⟨c, A, S, B, fun t ht => by rw [H t ht, q t ht]⟩
theorem Ary.new {k : ClassId} {z : Int32} (A : Arr Z h a (newA k ty z) ty) (q : ¬ z < 0) (hn : z.toNatClampNeg = n) : Ary Z h a ty n (fun _ => defaultValue ty) := by
  subst hn; exact ⟨_, A, sz_new _ _ _, (back32 q).2, fun t ht => by simp [newA, ht]⟩
theorem Keep.of_ext (E : Ext h h') : Keep h h' [] := (Keep.refl h []).ext E
def Cls (h : Heap) (a : Addr) (k : ClassId) : Prop := ∃ c : Cell, h[a]? = some c ∧ c.cls = k
theorem Cls.lt {k : ClassId} (F : Cls h a k) : a < h.size := by obtain ⟨c, h1, -⟩ := F; exact (Array.getElem?_eq_some_iff.mp h1).1
theorem Cls.keep {k : ClassId} (F : Cls h a k) (K : Keep h h' ws) : Cls h' a k := by obtain ⟨c, h1, h2⟩ := F; obtain ⟨c', q1, q2, -⟩ := K.2.2 _ _ h1; exact ⟨c', q1, q2.trans h2⟩
theorem Sto.ofA {k : ClassId} {C : String} {y : Addr} (A : Ary Z h a ty n v) (q : Cls h a k) (O : Ovr Z k C) (I : Ins Z h y C true) : Sto Z h a (.ref y) := by
  obtain ⟨c, A, r⟩ := A; obtain ⟨c', q1, q2⟩ := q; cases A.1.symm.trans q1; exact Sto.of A (q2 ▸ O) I
end Arys
theorem acmp_eq_t {a b : Addr} (h : a = b) : XT.acmp .eq (.ref a) (.ref b) = true := by subst h; simp [XT.acmp]
theorem acmp_eq_f {a b : Addr} (h : ¬ a = b) : XT.acmp .eq (.ref a) (.ref b) = false := by simp [XT.acmp, h]
theorem acmp_ne_t {a b : Addr} (h : ¬ a = b) : XT.acmp .ne (.ref a) (.ref b) = true := by simp [XT.acmp, h]
theorem acmp_ne_f {a b : Addr} (h : a = b) : XT.acmp .ne (.ref a) (.ref b) = false := by subst h; simp [XT.acmp]
/-- j names the place i -/
def Ix (j : Int32) (i : Nat) : Prop := ¬ j < 0 ∧ j.toNatClampNeg = i
theorem Ix.in {j : Int32} {i n : Nat} {c : Cell} (q : Ix j i) (S : c.slots.size = n) (hi : i < n) : ¬ (j < 0 ∨ c.slots.size ≤ j.toNatClampNeg) := fun o => o.elim q.1 fun o => by rw [S, q.2] at o; omega
theorem Ix.of {j : Int32} {i : Nat} (q : j.toInt = i) : Ix j i := by
  have h0 : ¬ j < 0 := by rw [Int32.lt_iff_toInt_lt, show (0 : Int32).toInt = 0 from by decide]; omega
  refine ⟨h0, ?_⟩
  have := nat_of h0; omega
theorem Ix.int {j : Int32} {i : Nat} (q : Ix j i) : j.toInt = i := by have := nat_of q.1; rw [q.2] at this; exact this
section Steps
variable {p : Program} {l : Launch} {e : Env} {R : Room} {s : State} {m : MethodId} {args : Array Value} {below : List Frame} {meth : Method} {c : Code} {T : State} {locs : List Loc} {cells slots : Nat} {Fe : Outcome → State → List Loc → Prop} {Q : Option Value → Heap → List Loc → Prop} {cl sl : Nat} {pc q : Nat} {Ls : Array Slot} {rest : List Value}
variable {Z : State} {a0 : Array Value} {h : Heap}
theorem k_arB (X : Stand p l e R s m args below meth c T locs cells slots) (hx : p.tables.exec = Jvm.exec) (hZ : Z.Warmed39 s.vm) (eT : T.heap = h) {a : Addr} {n : Nat} {v : Nat → Value} {j : Int32} {x : Value} (i : Nat) (hq : pc + 1 = q) (hd : decode c.code pc = .ok (.baload, 1)) (A : Ary Z h a .byte n v) (hj : Ix j i) (hi : i < n) (hv : v i = x) (k : EndG p e below Fe Q (T.setTop (mkF m q Ls (x :: rest)))) : EndG p e below Fe Q (T.setTop (mkF m pc Ls (.int j :: .ref a :: rest))) := by
  obtain ⟨ce, A, S, B, H⟩ := A
  subst hq hv; exact k.st fun t w => X.baloadBytes hx (j := j) (v := v i) (by rw [eT]; exact A.1) (State.isArrayOf_alike hZ.alike A.2.1) A.2.2 (hj.in S hi) (by rw [hj.2]; exact H i hi) (g := (mkF m pc Ls (.int j :: .ref a :: rest))) rfl rfl hd t w
theorem k_asB (X : Stand p l e R s m args below meth c T locs cells slots) (hx : p.tables.exec = Jvm.exec) (hZ : Z.Warmed39 s.vm) (eT : T.heap = h) {a : Addr} {n : Nat} {v : Nat → Value} {j : Int32} {x : Int32} (i : Nat) (hq : pc + 1 = q) (hd : decode c.code pc = .ok (.bastore, 1)) (A : Ary Z h a .byte n v) (hj : Ix j i) (hi : i < n) (k : ∀ T' h', Stand p l e R s m args below meth c T' (locs ++ [⟨a, i⟩]) cells slots → T'.heap = h' → Wr h h' a i (.int (nar .byte x)) → Ary Z h' a .byte n (fun t => if t = i then (.int (nar .byte x)) else v t) → EndG p e below Fe Q (T'.setTop (mkF m q Ls (rest)))) : EndG p e below Fe Q (T.setTop (mkF m pc Ls (.int x :: .int j :: .ref a :: rest))) := by
  have A0 := A
  obtain ⟨ce, A, S, B, H⟩ := A
  subst hq; obtain ⟨T', h', X', e', W', st⟩ := stB X hx hZ eT A (hj.in S hi) (g := (mkF m pc Ls (.int x :: .int j :: .ref a :: rest))) rfl rfl hd
  rw [hj.2] at X' W'
  exact (k T' h' X' e' W' (A0.same W')).st st
theorem k_al (X : Stand p l e R s m args below meth c T locs cells slots) (hx : p.tables.exec = Jvm.exec) (hZ : Z.Warmed39 s.vm) (eT : T.heap = h) {a : Addr} {ty : FieldType} {n : Nat} {v : Nat → Value} {z : Int32} (hq : pc + 1 = q) (hd : decode c.code pc = .ok (.arraylength, 1)) (A : Ary Z h a ty n v) (hz : n.toInt32 = z) (k : EndG p e below Fe Q (T.setTop (mkF m q Ls (.int z :: rest)))) : EndG p e below Fe Q (T.setTop (mkF m pc Ls (.ref a :: rest))) := by
  obtain ⟨ce, A, S, B, H⟩ := A
  subst hq hz; exact k.st fun t w => X.arraylength hx (by rw [eT]; exact A.1) (State.isArrayOf_alike hZ.alike A.2.1) (g := (mkF m pc Ls (.ref a :: rest))) rfl rfl hd t (by rw [S]; exact w)
theorem k_callS (X : Stand p l e R s m args below meth c T locs cells slots) (hx : p.tables.exec = Jvm.exec) (hZ : Z.Warmed39 s.vm) {own : String} {index : Nat} {y : MethodName} {bytes : ByteArray} {maxL : Nat} {ret : Option FieldType} {rm : Room} {as : List Value} {Qc : Option Value → Heap → List Loc → Prop} (hown : s.vm.findClass own = some m.cls) (w1 : (Cond.methodLink own index y).before a0 Z = true) (w2 : (Cond.static y).before a0 Z = true) (w3 : (Cond.initialized y.cls).before a0 Z = true) (w4 : (Cond.code y bytes maxL ret).before a0 Z = true) (hy : y.cls ≠ "java/lang/invoke/MethodHandle" ∧ y.cls ≠ "java/lang/invoke/VarHandle") (W : Nat) (eT : T.heap = h) (hM : Con l Z y bytes maxL ret [] rm (as).toArray h Qc) (hf : rm.frames + 1 ≤ R.frames) (hl : W + (maxL + 11) + rm.locals ≤ R.locals) (hcl : cells + rm.cells ≤ R.cells) (hsl : slots + rm.slots ≤ R.slots) (hls : Ls.size = c.maxLocals) {ps : List FieldType} {rt : Option FieldType} (hpd : parseMethodDescriptor y.desc = some ⟨ps, rt⟩) (hlen : as.length = ps.length) (hW : 2 * 0 + (rest.map fun v => v.category).sum ≤ W) (hq : pc + 3 = q) (hd : decode c.code pc = .ok (.invokestatic index, 3)) (k : ∀ v T' L, Stand p l e R s m args below meth c T' (locs ++ L) (cells + rm.cells) (slots + rm.slots) → Qc v T'.heap L → EndG p e below Fe Q (T'.setTop (mkF m q Ls (v.toList ++ rest)))) : EndG p e below Fe Q (T.setTop (mkF m pc Ls (as.reverse ++ rest))) := by
  subst hq
  obtain ⟨v, _, ⟨T', L', k', n'⟩, -, X', ⟨Lc, hQ, l', y', z'⟩, st⟩ := Jvm.LawKit.callS X hx (y := y) hown (mvT hZ w1) (mvT hZ w2) (mvT hZ w3) (mvT hZ w4) hy (backOf (W := W) hM hZ w4 w3 hf hl) (g := (mkF m pc Ls (as.reverse ++ rest))) rfl hls (argsL := as) (rest := rest) (lenOf hpd hlen) rfl hW hd (fun _ _ => ⟨rfl, eT, hcl, hsl⟩)
  dsimp only [Pt.U, Pt.locs, Pt.cells, Pt.slots] at X' l' y' z' st hQ
  subst l' y' z'
  exact (k v T' Lc X' hQ).st st
theorem k_callI (X : Stand p l e R s m args below meth c T locs cells slots) (hx : p.tables.exec = Jvm.exec) (hZ : Z.Warmed39 s.vm) {own : String} {index : Nat} {y : MethodName} {bytes : ByteArray} {maxL : Nat} {rm : Room} {as : List Value} {Qc : Option Value → Heap → List Loc → Prop} {a : Addr} (hown : s.vm.findClass own = some m.cls) (hy1 : y.name = "<init>") (w1 : (Cond.methodLink own index y).before a0 Z = true) (w2 : (Cond.instanceMethod y).before a0 Z = true) (w3 : (Cond.initialized y.cls).before a0 Z = true) (w4 : (Cond.code y bytes maxL none).before a0 Z = true) (hy : y.cls ≠ "java/lang/invoke/MethodHandle" ∧ y.cls ≠ "java/lang/invoke/VarHandle") (W : Nat) (eT : T.heap = h) (hM : Con l Z y bytes maxL none [] rm (.ref a :: as).toArray h Qc) (hf : rm.frames + 1 ≤ R.frames) (hl : W + (maxL + 11) + rm.locals ≤ R.locals) (hcl : cells + rm.cells ≤ R.cells) (hsl : slots + rm.slots ≤ R.slots) (hls : Ls.size = c.maxLocals) {ps : List FieldType} {rt : Option FieldType} (hpd : parseMethodDescriptor y.desc = some ⟨ps, rt⟩) (hlen : as.length = ps.length) (hW : 2 * 0 + (rest.map fun v => v.category).sum ≤ W) (hq : pc + 3 = q) (hd : decode c.code pc = .ok (.invokespecial index, 3)) (k : ∀ v T' L, Stand p l e R s m args below meth c T' (locs ++ L) (cells + rm.cells) (slots + rm.slots) → Qc v T'.heap L → EndG p e below Fe Q (T'.setTop (mkF m q Ls (v.toList ++ rest)))) : EndG p e below Fe Q (T.setTop (mkF m pc Ls (as.reverse ++ .ref a :: rest))) := by
  subst hq
  obtain ⟨v, _, ⟨T', L', k', n'⟩, -, X', ⟨Lc, hQ, l', y', z'⟩, st⟩ := X.specialBack hx (y := y) hy1 hown (mvT hZ w1) (mvT hZ w2) (mvT hZ w4) hy (backOf (W := W) hM hZ w4 w3 hf hl) (g := (mkF m pc Ls (as.reverse ++ .ref a :: rest))) rfl hls (Steps.refl _) (a := a) (argsL := as) (rest := rest) (lenOf hpd hlen) rfl hW hd (fun _ _ => ⟨rfl, eT, hcl, hsl⟩)
  dsimp only [Pt.U, Pt.locs, Pt.cells, Pt.slots] at X' l' y' z' st hQ
  subst l' y' z'
  exact (k v T' Lc X' hQ).tr st
theorem k_callV (X : Stand p l e R s m args below meth c T locs cells slots) (hx : p.tables.exec = Jvm.exec) (hZ : Z.Warmed39 s.vm) {own : String} {index : Nat} {y : MethodName} {bytes : ByteArray} {maxL : Nat} {ret : Option FieldType} {rm : Room} {as : List Value} {Qc : Option Value → Heap → List Loc → Prop} {a : Addr} {C : String} {z : MethodName} (hown : s.vm.findClass own = some m.cls) (w1 : (Cond.methodLink own index y).before a0 Z = true) (w2 : (Cond.declares y).before a0 Z = true) (hnf : NotFace s y) (w3 : (Cond.selects C y z).before a0 Z = true) (w4 : (Cond.instanceMethod z).before a0 Z = true) (w5 : (Cond.code z bytes maxL ret).before a0 Z = true) (w6 : (Cond.initialized z.cls).before a0 Z = true) (hy : y.cls ≠ "java/lang/invoke/MethodHandle" ∧ y.cls ≠ "java/lang/invoke/VarHandle") (Ex : Exa Z h a C) (W : Nat) (eT : T.heap = h) (hM : Con l Z z bytes maxL ret [] rm (.ref a :: as).toArray h Qc) (hf : rm.frames + 1 ≤ R.frames) (hl : W + (maxL + 11) + rm.locals ≤ R.locals) (hcl : cells + rm.cells ≤ R.cells) (hsl : slots + rm.slots ≤ R.slots) (hls : Ls.size = c.maxLocals) {ps : List FieldType} {rt : Option FieldType} (hpd : parseMethodDescriptor y.desc = some ⟨ps, rt⟩) (hlen : as.length = ps.length) (hW : 2 * 0 + (rest.map fun v => v.category).sum ≤ W) (hq : pc + 3 = q) (hd : decode c.code pc = .ok (.invokevirtual index, 3)) (k : ∀ v T' L, Stand p l e R s m args below meth c T' (locs ++ L) (cells + rm.cells) (slots + rm.slots) → Qc v T'.heap L → EndG p e below Fe Q (T'.setTop (mkF m q Ls (v.toList ++ rest)))) : EndG p e below Fe Q (T.setTop (mkF m pc Ls (as.reverse ++ .ref a :: rest))) := by
  subst hq
  obtain ⟨cB, kB, q1, q2, q3⟩ := isOf hZ eT Ex
  obtain ⟨v, _, ⟨T', L', k', n'⟩, -, X', ⟨Lc, hQ, l', y', z'⟩, st⟩ := X.virtualBack hx (y := y) (z := z) hown (mvT hZ w1) (mvT hZ w2) hnf (mvT hZ w3) (mvT hZ w4) hy (backOf (W := W) hM hZ w5 w6 hf hl) q1 q3 (g := (mkF m pc Ls (as.reverse ++ .ref a :: rest))) rfl hls (Steps.refl _) (argsL := as) (rest := rest) (lenOf hpd hlen) rfl hW hd (fun _ _ => ⟨rfl, eT, hcl, hsl⟩)
  dsimp only [Pt.U, Pt.locs, Pt.cells, Pt.slots] at X' l' y' z' st hQ
  subst l' y' z'
  exact (k v T' Lc X' hQ).tr st
end Steps
end Jvm.OwnK
namespace Jvm.OwnK
open Sem ClassFile Op Lib Jvm.Stand Jvm.Free Jvm.LawKit Jvm.RoadKit
section Copy
variable {p : Program} {l : Launch} {e : Env} {R : Room} {s : State} {m : MethodId} {args : Array Value} {below : List Frame} {meth : Method} {c : Code} {T : State} {locs : List Loc} {cells slots : Nat} {Fe : Outcome → State → List Loc → Prop} {Q : Option Value → Heap → List Loc → Prop} {pc q : Nat} {Ls : Array Slot} {rest : List Value} {Z : State} {a0 : Array Value} {h h' : Heap}
theorem toNat32 {n : Nat} (h : n < 2 ^ 31) : n.toInt32.toNatClampNeg = n ∧ ¬ n.toInt32 < 0 := (fun q => ⟨q.2, q.1⟩) (Ix.of (len_toInt h))
theorem range_getD (v : Nat → Value) (d : Value) {n t : Nat} (h : t < n) : ((List.range n).map v).getD t d = v t := by
  simp [List.getD_eq_getElem?_getD, h]
theorem Ary.arv {a : Addr} {ty : FieldType} {n : Nat} {v : Nat → Value} (F : Ary Z h a ty n v) (G : ∀ t, t < n → fits ty (v t) = true) (d : Value) : ∃ k, Arv Z h a k ty n.toInt32 ((List.range n).map v) d := by
  obtain ⟨c, A, S, B, H⟩ := F
  refine ⟨c.cls, c, A, rfl, by rw [S, (toNat32 B).1], (toNat32 B).2, fun t ht => ?_, fun t ht => ?_⟩
  · rw [S] at ht; rw [range_getD v d ht]; exact H t ht
  · rw [S] at ht; rw [range_getD v d ht]; exact G t ht
theorem Ary.ofArv {a : Addr} {k : ClassId} {ty : FieldType} {z : Int32} {vs : List Value} {d : Value} {n : Nat} (F : Arv Z h a k ty z vs d) (q : Ix z n) : Ary Z h a ty n (fun t => vs.getD t d) := by
  obtain ⟨c, A, -, S, -, H, -⟩ := F
  refine ⟨c, A, by rw [S, q.2], ?_, fun t ht => H t (by rw [S, q.2]; exact ht)⟩
  have e := q.int
  have b := (rng32 z).2
  omega
theorem Ary.small {a : Addr} {ty : FieldType} {n : Nat} {v : Nat → Value} (F : Ary Z h a ty n v) : n < 2 ^ 31 := by obtain ⟨c, A, S, B, H⟩ := F; exact B
theorem spliced (v v' : Nat → Value) (d : Value) {i n n' t : Nat} (h1 : i ≤ n) (h2 : i ≤ n') (ht : t < n') :
    (((List.range n').map v').take 0 ++ ((List.range i).map fun j => ((List.range n).map v).getD (0 + j) d) ++ ((List.range n').map v').drop (0 + i)).getD t d = if t < i then v t else v' t := by
  have e0 : ((List.range n').map v').take 0 = [] := rfl
  rw [e0, List.nil_append, List.getD_eq_getElem?_getD]
  by_cases q : t < i
  · rw [if_pos q, List.getElem?_append_left (by simp; exact q), List.getElem?_map, List.getElem?_range q]
    show ((List.range n).map v).getD (0 + t) d = v t
    rw [Nat.zero_add]; exact range_getD v d (by omega)
  · rw [if_neg q, List.getElem?_append_right (by simp; omega), List.getElem?_drop]
    simp only [List.length_map, List.length_range]
    have : 0 + i + (t - i) = t := by omega
    rw [this, List.getElem?_map, List.getElem?_range ht]; rfl
theorem k_copy (X : Stand p l e R s m args below meth c T locs cells slots) (hx : p.tables.exec = Jvm.exec) (hZ : Z.Warmed39 s.vm) {own : String} {index : Nat} (hown : s.vm.findClass own = some m.cls)
    (w1 : (Cond.methodLink own index Jvm.Stand.acN).before a0 Z = true) (w2 : (Cond.native Jvm.Stand.acN).before a0 Z = true) (w3 : (Cond.static Jvm.Stand.acN).before a0 Z = true) (w4 : (Cond.initialized "java/lang/System").before a0 Z = true) (eT : T.heap = h)
    {a b : Addr} {ty : FieldType} {n n' : Nat} {v v' : Nat → Value} (hty : refKind ty = false) {nn : Int32} (i : Nat) (A : Ary Z h a ty n v) (B : Ary Z h b ty n' v') (GA : ∀ t, t < n → fits ty (v t) = true) (GB : ∀ t, t < n' → fits ty (v' t) = true) (hi : Ix nn i) (h1 : i ≤ n) (h2 : i ≤ n') {n0 : Nat} (N : Fr n0 locs) (ge : n0 ≤ b)
    (hq : pc + 3 = q) (hd : decode c.code pc = .ok (.invokestatic index, 3)) (hls : Ls.size = c.maxLocals) (hf : 1 ≤ R.frames) (W : Nat) (hW : 2 * 0 + (rest.map fun v => v.category).sum ≤ W) (hlo : W + (nativeFrameWords "java/lang/System" "arraycopy" 5 + 11) ≤ R.locals)
    (k : ∀ T' h' L, Stand p l e R s m args below meth c T' L cells slots → T'.heap = h' → Fr n0 L → Keep h h' [b] → Ary Z h' b ty n' (fun t => if t < i then v t else v' t) → EndG p e below Fe Q (T'.setTop (mkF m q Ls rest))) :
    EndG p e below Fe Q (T.setTop (mkF m pc Ls (.int nn :: .int 0 :: .ref b :: .int 0 :: .ref a :: rest))) := by
  subst hq
  obtain ⟨k1, A1⟩ := A.arv GA (.int 0)
  obtain ⟨k2, B1⟩ := B.arv GB (.int 0)
  have z0 : (0 : Int32).toNatClampNeg = 0 := by decide
  obtain ⟨T', h', L, X', e', N', K', V', st⟩ := cpA X hx hZ hown w1 w2 w3 w4 eT A1 B1 (Or.inl ⟨rfl, hty⟩) (sp := 0) (dp := 0) (nn := nn) (by decide) (by decide) hi.1 (by rw [z0, hi.2, (toNat32 A.small).1]; omega) (by rw [z0, hi.2, (toNat32 B.small).1]; omega) rfl (by rw [z0, hi.2]; simp; omega) N ge (g := (mkF m pc Ls (.int nn :: .int 0 :: .ref b :: .int 0 :: .ref a :: rest))) rfl hls rfl hd hf (W := W) hW hlo
  rw [z0, hi.2] at V'
  refine (k T' h' L X' e' N' K' ?_).st st
  exact (Ary.ofArv V' (Ix.of (len_toInt B.small))).congr fun t ht => spliced v v' (.int 0) h1 h2 ht
theorem k_clone (X : Stand p l e R s m args below meth c T locs cells slots) (hx : p.tables.exec = Jvm.exec) (hZ : Z.Warmed39 s.vm) {own ad : String} {index : Nat} (hown : s.vm.findClass own = some m.cls)
    (w1 : (Cond.methodLink own index ⟨ad, "clone", "()Ljava/lang/Object;"⟩).before a0 Z = true) (w2 : (Cond.sameMethod ad "java/lang/Object" "clone" "()Ljava/lang/Object;").before a0 Z = true) (w3 : (Cond.native ⟨"java/lang/Object", "clone", "()Ljava/lang/Object;"⟩).before a0 Z = true)
    (w4 : (Cond.instanceMethod ⟨"java/lang/Object", "clone", "()Ljava/lang/Object;"⟩).before a0 Z = true) (w5 : (Cond.selects ad ⟨ad, "clone", "()Ljava/lang/Object;"⟩ ⟨"java/lang/Object", "clone", "()Ljava/lang/Object;"⟩).before a0 Z = true) (w6 : (Cond.castable ad "java/lang/Cloneable").before a0 Z = true)
    (eT : T.heap = h) {a : Addr} {ty : FieldType} {n : Nat} {v : Nat → Value} (A : Ary Z h a ty n v) (E : Exa Z h a ad) (G : ∀ t, t < n → fits ty (v t) = true) (hq : pc + 3 = q) (hd : decode c.code pc = .ok (.invokevirtual index, 3)) (hls : Ls.size = c.maxLocals)
    (hf : 1 ≤ R.frames) (W cap : Nat) (hW : 2 * 0 + (rest.map fun v => v.category).sum ≤ W) (hl : W + 14 ≤ R.locals) (hcap : n ≤ cap) (hc : cells + 1 ≤ R.cells) (hsl : slots + cap ≤ R.slots)
    (k : ∀ T' h' a', Stand p l e R s m args below meth c T' locs (cells + 1) (slots + cap) → T'.heap = h' → a' = h.size → Ext h h' → Ary Z h' a' ty n v → Exa Z h' a' ad → EndG p e below Fe Q (T'.setTop (mkF m q Ls (.ref a' :: rest)))) :
    EndG p e below Fe Q (T.setTop (mkF m pc Ls (.ref a :: rest))) := by
  subst hq
  obtain ⟨ce, A, S, B, H⟩ := A
  have FC : FitC Z ce := fitC_of A fun i hi v' hv => by rw [H i (S ▸ hi)] at hv; cases hv; exact G i (S ▸ hi)
  obtain ⟨T', h', X', e', E', A', Ex', st⟩ := cloneA X hx hZ hown w1 w2 w3 w4 w5 w6 eT A E FC (g := (mkF m pc Ls (.ref a :: rest))) rfl hls rfl hd hf (W := W) (cap := cap) hW hl (by rw [S]; exact hcap) hc hsl
  exact (k T' h' _ X' e' rfl E' ⟨_, A', S, B, H⟩ Ex').st st
theorem k_newE (X : Stand p l e R s m args below meth c T locs cells slots) (hx : p.tables.exec = Jvm.exec) (hZ : Z.Warmed39 s.vm) {aty : ArrayType} (w0 : (Cond.arrayClass (newarray.typeOf aty)).before a0 Z = true) (eT : T.heap = h) {n : Int32} (hq : pc + 2 = q) (hd : decode c.code pc = .ok (.newarray aty, 2)) (hn : ¬ n < 0) {cap : Nat} (hcap : n.toNatClampNeg ≤ cap) (hb : cap * 8 ≤ 536870912) (hc : cells + 1 ≤ R.cells) (hl : slots + cap ≤ R.slots) {ad : String} (had : "[" ++ (newarray.typeOf aty).toString = ad)
    (k : ∀ T' h' a cA, Stand p l e R s m args below meth c T' locs (cells + 1) (slots + cap) → T'.heap = h' → a = h.size → Ext h h' → Arr Z h' a (newA cA (newarray.typeOf aty) n) (newarray.typeOf aty) → Exa Z h' a ad → EndG p e below Fe Q (T'.setTop (mkF m q Ls (.ref a :: rest)))) :
    EndG p e below Fe Q (T.setTop (mkF m pc Ls (.int n :: rest))) := by
  subst hq; obtain ⟨T', h', cA, X', e', E', A', Ex', st⟩ := newPE X hx hZ w0 eT (g := (mkF m pc Ls (.int n :: rest))) rfl hd rfl hn hcap hb hc hl had
  exact (k T' h' _ cA X' e' rfl E' A' Ex').st st
end Copy
end Jvm.OwnK
namespace Jvm.Pilot.@@N@@
open Jvm Jvm.ClassFile Sem Op Lib Jvm.Free Jvm.Stand Jvm.LawKit Jvm.RoadKit Jvm.OwnK Bundle Jvm.Pilot.@@N@@.Jvm.D
theorem pn_0 : plainName "java/util/Arrays" = true := by first | (simp [plainName, overriddenIn]; done) | decide +kernel
theorem pn_1 : plainName "com/example/keyshelf/keyshelf/berkeleydb/ItemBytes" = true := by first | (simp [plainName, overriddenIn]; done) | decide +kernel
theorem pn_2 : plainName "com/example/keyshelf/keyshelf/berkeleydb/ItemBytesToArrayPinLaw" = true := by first | (simp [plainName, overriddenIn]; done) | decide +kernel
theorem pd_0 : parseMethodDescriptor "(II)I" = some ⟨[.int, .int], some .int⟩ := by decide +kernel
theorem pd_1 : parseMethodDescriptor "([BI)[B" = some ⟨[(.array .byte), .int], some (.array .byte)⟩ := by decide +kernel
theorem pd_2 : parseMethodDescriptor "(JJ)J" = some ⟨[.long, .long], some .long⟩ := by decide +kernel
theorem pd_3 : parseMethodDescriptor "()V" = some ⟨[], none⟩ := by decide +kernel
theorem pd_4 : parseMethodDescriptor "(IJ)[B" = some ⟨[.int, .long], some (.array .byte)⟩ := by decide +kernel
theorem pd_5 : parseMethodDescriptor "(I)V" = some ⟨[.int], none⟩ := by decide +kernel
theorem pd_6 : parseMethodDescriptor "()[B" = some ⟨[], some (.array .byte)⟩ := by decide +kernel
theorem own_z0 : (0 : Int32).toInt = 0 := by decide
theorem own_nat {k : Nat} (h : k < 2 ^ 31) : Ix k.toInt32 k := Ix.of (len_toInt h)
theorem own_is {j : Int32} {i : Nat} (h : Ix j i) : j = i.toInt32 := Int32.toInt_inj.mp (by
  have e := h.int
  have b := (rng32 j).2
  rw [len_toInt (by omega), e])
theorem own_up {x : Int32} {k : Nat} (q : Ix x k) (hk : k < 2147483000) : Ix (x + 1) (k + 1) := by
  apply Ix.of
  have e := c_iadd x 1
  have b := rng32 (x + 1)
  have i := q.int
  have e1 : (1 : Int32).toInt = 1 := by decide
  rw [e1] at e
  omega
theorem own_lt {j m : Int32} {k n : Nat} (q : Ix j k) (r : Ix m n) : j < m ↔ k < n := by
  have := q.int
  have := r.int
  rw [Int32.lt_iff_toInt_lt]; omega
theorem own_eqi {j m : Int32} {k n : Nat} (q : Ix j k) (r : Ix m n) : j = m ↔ k = n := by
  have := q.int
  have := r.int
  rw [← Int32.toInt_inj]; omega
theorem d7_0 : decode jdk_29_method_69_code 0 = .ok (.iload_n 0, 1) := by decide +kernel
theorem d7_1 : decode jdk_29_method_69_code 1 = .ok (.iload_n 1, 1) := by decide +kernel
theorem d7_2 : decode jdk_29_method_69_code 2 = .ok (.if_icmp .gt 7, 3) := by decide +kernel
theorem d7_5 : decode jdk_29_method_69_code 5 = .ok (.iload_n 0, 1) := by decide +kernel
theorem d7_6 : decode jdk_29_method_69_code 6 = .ok (.goto 4, 3) := by decide +kernel
theorem d7_9 : decode jdk_29_method_69_code 9 = .ok (.iload_n 1, 1) := by decide +kernel
theorem d7_10 : decode jdk_29_method_69_code 10 = .ok (.ireturn, 1) := by decide +kernel
theorem ef_7 (m : MethodId) (x0 : Int32) (x1 : Int32) : entryFrame m #[(.int x0), (.int x1)] 2 = mkF m 0 #[.val (.int x0), .val (.int x1)] [] := by first | (simp [entryFrame, mkF, argsToLocals, Value.category]; done) | rfl
def f7 (x0 : Int32) (x1 : Int32) : Int32 := (if x1 < x0 then x1 else x0)
set_option maxRecDepth 65536 in
set_option maxHeartbeats 40000000 in
theorem rm7 (l : Launch) (Z : State) (a0 : Array Value) (hw : ∀ d ∈ tables_1, d.before a0 Z = true) (x0 : Int32) (x1 : Int32) (h0 : Heap) (n0 : Nat) :
    Con l Z (⟨"java/lang/Math", "min", "(II)I"⟩ : MethodName) jdk_29_method_69_code 2 (some .int) [] ({ frames := 0, cells := 0, slots := 0, locals := 0 } : Room) #[(.int x0), (.int x1)] h0 (fun v h L => v = some (.int (f7 x0 x1)) ∧ Fr n0 L ∧ h = h0) := by
  refine Con.of (Jvm.Free.JP.mathPlain rfl (by decide +kernel)) ?_
  intro p e s m below meth c s₁ X0 hx hby hml hown hnm hret hlk hZ e0
  refine End.cast ?_ (ef_7 m x0 x1)
  have N0 := Fr.nil n0
  refine k_iloadN X0 hx (q := 1) rfl (hb hby d7_0) rfl ?_
  refine k_iloadN X0 hx (q := 2) rfl (hb hby d7_1) rfl ?_
  refine k_icmp_gt X0 hx (q1 := 9) (q := 5) (by decide) (by decide) rfl (hb hby d7_2) (fun hc1 => ?_) (fun hc1 => ?_)
  · refine k_iloadN X0 hx (q := 10) rfl (hb hby d7_9) rfl ?_
    exact k_retI X0 hx hlk (by decide) (by decide) hret (hb hby d7_10) ⟨retI_eq ((rfl : f7 x0 x1 = _).trans (if_pos hc1)), N0, e0⟩
  · refine k_iloadN X0 hx (q := 6) rfl (hb hby d7_5) rfl ?_
    refine k_goto X0 hx (q := 10) (by decide) (by decide) (hb hby d7_6) ?_
    exact k_retI X0 hx hlk (by decide) (by decide) hret (hb hby d7_10) ⟨retI_eq ((rfl : f7 x0 x1 = _).trans (if_neg hc1)), N0, e0⟩
theorem d8_0 : decode jdk_29_method_66_code 0 = .ok (.lload_n 0, 1) := by decide +kernel
theorem d8_1 : decode jdk_29_method_66_code 1 = .ok (.lload_n 2, 1) := by decide +kernel
theorem d8_2 : decode jdk_29_method_66_code 2 = .ok (.lcmp, 1) := by decide +kernel
theorem d8_3 : decode jdk_29_method_66_code 3 = .ok (.ifCond .lt 7, 3) := by decide +kernel
theorem d8_6 : decode jdk_29_method_66_code 6 = .ok (.lload_n 0, 1) := by decide +kernel
theorem d8_7 : decode jdk_29_method_66_code 7 = .ok (.goto 4, 3) := by decide +kernel
theorem d8_10 : decode jdk_29_method_66_code 10 = .ok (.lload_n 2, 1) := by decide +kernel
theorem d8_11 : decode jdk_29_method_66_code 11 = .ok (.lreturn, 1) := by decide +kernel
theorem ef_8 (m : MethodId) (x0 : Int64) (x1 : Int64) : entryFrame m #[(.long x0), (.long x1)] 4 = mkF m 0 #[.val (.long x0), .second, .val (.long x1), .second] [] := by first | (simp [entryFrame, mkF, argsToLocals, Value.category]; done) | rfl
def f8 (x0 : Int64) (x1 : Int64) : Int64 := (if x0 < x1 then x1 else x0)
set_option maxRecDepth 65536 in
set_option maxHeartbeats 40000000 in
theorem rm8 (l : Launch) (Z : State) (a0 : Array Value) (hw : ∀ d ∈ tables_1, d.before a0 Z = true) (x0 : Int64) (x1 : Int64) (h0 : Heap) (n0 : Nat) :
    Con l Z (⟨"java/lang/Math", "max", "(JJ)J"⟩ : MethodName) jdk_29_method_66_code 4 (some .long) [] ({ frames := 0, cells := 0, slots := 0, locals := 0 } : Room) #[(.long x0), (.long x1)] h0 (fun v h L => v = some (.long (f8 x0 x1)) ∧ Fr n0 L ∧ h = h0) := by
  refine Con.of (Jvm.Free.JP.mathPlain rfl (by decide +kernel)) ?_
  intro p e s m below meth c s₁ X0 hx hby hml hown hnm hret hlk hZ e0
  refine End.cast ?_ (ef_8 m x0 x1)
  have N0 := Fr.nil n0
  refine k_lloadN X0 hx (q := 1) rfl (hb hby d8_0) rfl ?_
  refine k_lloadN X0 hx (q := 2) rfl (hb hby d8_1) rfl ?_
  refine k_lcmp_lt X0 hx (q1 := 10) (q := 6) (by decide) (by decide) rfl (hb hby d8_2) (hb hby d8_3) (fun hc1 => ?_) (fun hc1 => ?_)
  · refine k_lloadN X0 hx (q := 11) rfl (hb hby d8_10) rfl ?_
    exact k_retJ X0 hx hlk (by decide) (by decide) hret (hb hby d8_11) ⟨retJ_eq ((rfl : f8 x0 x1 = _).trans (if_pos hc1)), N0, e0⟩
  · refine k_lloadN X0 hx (q := 7) rfl (hb hby d8_6) rfl ?_
    refine k_goto X0 hx (q := 11) (by decide) (by decide) (hb hby d8_7) ?_
    exact k_retJ X0 hx hlk (by decide) (by decide) hret (hb hby d8_11) ⟨retJ_eq ((rfl : f8 x0 x1 = _).trans (if_neg hc1)), N0, e0⟩
theorem d9_0 : decode jdk_29_method_70_code 0 = .ok (.lload_n 0, 1) := by decide +kernel
theorem d9_1 : decode jdk_29_method_70_code 1 = .ok (.lload_n 2, 1) := by decide +kernel
theorem d9_2 : decode jdk_29_method_70_code 2 = .ok (.lcmp, 1) := by decide +kernel
theorem d9_3 : decode jdk_29_method_70_code 3 = .ok (.ifCond .gt 7, 3) := by decide +kernel
theorem d9_6 : decode jdk_29_method_70_code 6 = .ok (.lload_n 0, 1) := by decide +kernel
theorem d9_7 : decode jdk_29_method_70_code 7 = .ok (.goto 4, 3) := by decide +kernel
theorem d9_10 : decode jdk_29_method_70_code 10 = .ok (.lload_n 2, 1) := by decide +kernel
theorem d9_11 : decode jdk_29_method_70_code 11 = .ok (.lreturn, 1) := by decide +kernel
theorem ef_9 (m : MethodId) (x0 : Int64) (x1 : Int64) : entryFrame m #[(.long x0), (.long x1)] 4 = mkF m 0 #[.val (.long x0), .second, .val (.long x1), .second] [] := by first | (simp [entryFrame, mkF, argsToLocals, Value.category]; done) | rfl
def f9 (x0 : Int64) (x1 : Int64) : Int64 := (if x1 < x0 then x1 else x0)
set_option maxRecDepth 65536 in
set_option maxHeartbeats 40000000 in
theorem rm9 (l : Launch) (Z : State) (a0 : Array Value) (hw : ∀ d ∈ tables_1, d.before a0 Z = true) (x0 : Int64) (x1 : Int64) (h0 : Heap) (n0 : Nat) :
    Con l Z (⟨"java/lang/Math", "min", "(JJ)J"⟩ : MethodName) jdk_29_method_70_code 4 (some .long) [] ({ frames := 0, cells := 0, slots := 0, locals := 0 } : Room) #[(.long x0), (.long x1)] h0 (fun v h L => v = some (.long (f9 x0 x1)) ∧ Fr n0 L ∧ h = h0) := by
  refine Con.of (Jvm.Free.JP.mathPlain rfl (by decide +kernel)) ?_
  intro p e s m below meth c s₁ X0 hx hby hml hown hnm hret hlk hZ e0
  refine End.cast ?_ (ef_9 m x0 x1)
  have N0 := Fr.nil n0
  refine k_lloadN X0 hx (q := 1) rfl (hb hby d9_0) rfl ?_
  refine k_lloadN X0 hx (q := 2) rfl (hb hby d9_1) rfl ?_
  refine k_lcmp_gt X0 hx (q1 := 10) (q := 6) (by decide) (by decide) rfl (hb hby d9_2) (hb hby d9_3) (fun hc1 => ?_) (fun hc1 => ?_)
  · refine k_lloadN X0 hx (q := 11) rfl (hb hby d9_10) rfl ?_
    exact k_retJ X0 hx hlk (by decide) (by decide) hret (hb hby d9_11) ⟨retJ_eq ((rfl : f9 x0 x1 = _).trans (if_pos hc1)), N0, e0⟩
  · refine k_lloadN X0 hx (q := 7) rfl (hb hby d9_6) rfl ?_
    refine k_goto X0 hx (q := 11) (by decide) (by decide) (hb hby d9_7) ?_
    exact k_retJ X0 hx hlk (by decide) (by decide) hret (hb hby d9_11) ⟨retJ_eq ((rfl : f9 x0 x1 = _).trans (if_neg hc1)), N0, e0⟩
theorem own_min {x y : Int32} {n k : Nat} (h1 : Ix x n) (h2 : Ix y k) : Ix (f7 x y) (min n k) := by
  unfold f7
  have e := own_lt h2 h1
  by_cases q : y < x
  · rw [if_pos q]; have := e.mp q; rw [Nat.min_eq_right (by omega)]; exact h2
  · rw [if_neg q]; have := mt e.mpr q; rw [Nat.min_eq_left (by omega)]; exact h1
theorem own_zero : fits .byte (.int (0 : Int32)) = true := by decide
theorem d6_0 : decode jdk_65_method_121_code 0 = .ok (.iload_n 1, 1) := by decide +kernel
theorem d6_1 : decode jdk_65_method_121_code 1 = .ok (.aload_n 0, 1) := by decide +kernel
theorem d6_2 : decode jdk_65_method_121_code 2 = .ok (.arraylength, 1) := by decide +kernel
theorem d6_3 : decode jdk_65_method_121_code 3 = .ok (.if_icmp .ne 11, 3) := by decide +kernel
theorem d6_6 : decode jdk_65_method_121_code 6 = .ok (.aload_n 0, 1) := by decide +kernel
theorem d6_7 : decode jdk_65_method_121_code 7 = .ok (.invokevirtual 310, 3) := by decide +kernel
theorem d6_10 : decode jdk_65_method_121_code 10 = .ok (.checkcast 311, 3) := by decide +kernel
theorem d6_13 : decode jdk_65_method_121_code 13 = .ok (.areturn, 1) := by decide +kernel
theorem d6_14 : decode jdk_65_method_121_code 14 = .ok (.iload_n 1, 1) := by decide +kernel
theorem d6_15 : decode jdk_65_method_121_code 15 = .ok (.newarray .byte, 2) := by decide +kernel
theorem d6_17 : decode jdk_65_method_121_code 17 = .ok (.astore_n 2, 1) := by decide +kernel
theorem d6_18 : decode jdk_65_method_121_code 18 = .ok (.aload_n 0, 1) := by decide +kernel
theorem d6_19 : decode jdk_65_method_121_code 19 = .ok (.iconst 0, 1) := by decide +kernel
theorem d6_20 : decode jdk_65_method_121_code 20 = .ok (.aload_n 2, 1) := by decide +kernel
theorem d6_21 : decode jdk_65_method_121_code 21 = .ok (.iconst 0, 1) := by decide +kernel
theorem d6_22 : decode jdk_65_method_121_code 22 = .ok (.aload_n 0, 1) := by decide +kernel
theorem d6_23 : decode jdk_65_method_121_code 23 = .ok (.arraylength, 1) := by decide +kernel
theorem d6_24 : decode jdk_65_method_121_code 24 = .ok (.iload_n 1, 1) := by decide +kernel
theorem d6_25 : decode jdk_65_method_121_code 25 = .ok (.invokestatic 304, 3) := by decide +kernel
theorem d6_28 : decode jdk_65_method_121_code 28 = .ok (.invokestatic 150, 3) := by decide +kernel
theorem d6_31 : decode jdk_65_method_121_code 31 = .ok (.aload_n 2, 1) := by decide +kernel
theorem d6_32 : decode jdk_65_method_121_code 32 = .ok (.areturn, 1) := by decide +kernel
theorem ef_6 (m : MethodId) (x0 : Addr) (x1 : Int32) : entryFrame m #[(.ref x0), (.int x1)] 3 = mkF m 0 #[.val (.ref x0), .val (.int x1), .unset] [] := by first | (simp [entryFrame, mkF, argsToLocals, Value.category]; done) | rfl
set_option maxRecDepth 65536 in
set_option maxHeartbeats 40000000 in
theorem rm6 (l : Launch) (Z : State) (a0 : Array Value) (hw : ∀ d ∈ tables_1, d.before a0 Z = true) (x0 : Addr) (x1 : Int32) (h0 : Heap) (n0 : Nat) (Z0 : n0 ≤ h0.size) (N M : Nat) (g : Nat → Int32) (hN : N ≤ 2047) (hM : Ix x1 M) (hM2 : M ≤ 2047) (V : Ary Z h0 x0 .byte N (fun t => .int (g t))) (G : ∀ t, t < N → fits .byte (.int (g t)) = true) (E0 : Exa Z h0 x0 "[B") :
    Con l Z (⟨"java/util/Arrays", "copyOf", "([BI)[B"⟩ : MethodName) jdk_65_method_121_code 3 (some (.array .byte)) [] ({ frames := 1, cells := 1, slots := 2047, locals := 40 } : Room) #[(.ref x0), (.int x1)] h0 (fun v h L => ∃ a : Addr, v = some (.ref a) ∧ Fr n0 L ∧ Keep h0 h [] ∧ h0.size ≤ a ∧ Exa Z h a "[B" ∧ Ary Z h a .byte M (fun t => .int (if t < N then g t else 0))) := by
  refine Con.of (plainFor_of_name pn_0) ?_
  intro p e s m below meth c s₁ X0 hx hby hml hown hnm hret hlk hZ e0
  refine End.cast ?_ (ef_6 m x0 x1)
  have N0 := Fr.nil n0
  have hN32 := own_nat (k := N) (Nat.lt_of_le_of_lt hN (by decide))
  refine k_iloadN X0 hx (q := 1) rfl (hb hby d6_0) rfl ?_
  refine k_aloadN X0 hx (q := 2) rfl (hb hby d6_1) rfl rfl ?_
  refine k_al X0 hx hZ e0 (z := N.toInt32) (q := 3) rfl (hb hby d6_2) V rfl ?_
  refine k_icmp_ne X0 hx (q1 := 14) (q := 6) (by decide) (by decide) rfl (hb hby d6_3) (fun hc1 => ?_) (fun hc1 => ?_)
  · refine k_iloadN X0 hx (q := 15) rfl (hb hby d6_14) rfl ?_
    refine k_newE X0 hx hZ (hw _ (List.mem_of_getElem? (i := 9) rfl)) e0 (q := 17) rfl (hb hby d6_15) hM.1 (cap := 2047) (by rw [hM.2]; exact hM2) (by decide) (by decide) (by decide) rfl ?_
    intro T4 h4 ac k4 X4 e4 g4 E4 A4 Ex4
    have K4 := Keep.of_ext E4
    have V4 : Ary Z h4 ac .byte M (fun _ => .int (0 : Int32)) := Ary.new A4 hM.1 hM.2
    refine k_astoreN X4 hx (L' := #[.val (.ref x0), .val (.int x1), .val (.ref ac)]) (q := 18) rfl (hb hby d6_17) rfl rfl ?_
    refine k_aloadN X4 hx (q := 19) rfl (hb hby d6_18) rfl rfl ?_
    refine k_iconst X4 hx (v := (0 : Int32)) rfl (q := 20) rfl (hb hby d6_19) ?_
    refine k_aloadN X4 hx (q := 21) rfl (hb hby d6_20) rfl rfl ?_
    refine k_iconst X4 hx (v := (0 : Int32)) rfl (q := 22) rfl (hb hby d6_21) ?_
    refine k_aloadN X4 hx (q := 23) rfl (hb hby d6_22) rfl rfl ?_
    have G5 := (V.keep K4 nin0)
    refine k_al X4 hx hZ e4 (z := N.toInt32) (q := 24) rfl (hb hby d6_23) G5 rfl ?_
    refine k_iloadN X4 hx (q := 25) rfl (hb hby d6_24) rfl ?_
    refine k_callS X4 hx hZ (y := (⟨"java/lang/Math", "min", "(II)I"⟩ : MethodName)) hown (hw _ (List.mem_of_getElem? (i := 34) rfl)) (hw _ (List.mem_of_getElem? (i := 35) rfl)) (hw _ (List.mem_of_getElem? (i := 36) rfl)) (hw _ (List.mem_of_getElem? (i := 37) rfl)) (by decide) 4 e4 (rm7 l Z a0 hw N.toInt32 x1 h4 n0) (by decide) (by decide) (by decide) (by decide) (by rw [hml]; rfl) (as := [(.int N.toInt32), (.int x1)]) (rest := [(.int (0 : Int32)), (.ref ac), (.int (0 : Int32)), (.ref x0)]) pd_0 rfl (by first | exact Nat.le_refl _ | simp [Value.category]) (q := 28) rfl (hb hby d6_25) ?_
    rintro _ T6 L6 X6 ⟨rfl, N6q, e6⟩
    have N6 := Fr.app N0 N6q
    show End _ _ _ _ _ _ _ (T6.setTop (mkF m 28 #[.val (.ref x0), .val (.int x1), .val (.ref ac)] [(.int (f7 N.toInt32 x1)), (.int (0 : Int32)), (.ref ac), (.int (0 : Int32)), (.ref x0)]))
    have ge_ac : n0 ≤ ac := Nat.le_trans Z0 (Nat.le_of_eq g4.symm)
    refine k_copy X6 hx hZ hown (hw _ (List.mem_of_getElem? (i := 38) rfl)) (hw _ (List.mem_of_getElem? (i := 41) rfl)) (hw _ (List.mem_of_getElem? (i := 39) rfl)) (hw _ (List.mem_of_getElem? (i := 40) rfl)) e6 rfl (min N M) G5 V4 G (fun _ _ => own_zero) (own_min hN32 hM) (Nat.min_le_left _ _) (Nat.min_le_right _ _) N6 ge_ac (q := 31) rfl (hb hby d6_28) (by rw [hml]; rfl) (by decide) 0 (by first | exact Nat.le_refl _ | simp [Value.category]) (by decide) ?_
    intro T7 h7 L7 X7 e7 N7 K7 V7
    refine k_aloadN X7 hx (q := 32) rfl (hb hby d6_31) rfl rfl ?_
    have Kp8 : Keep h0 h4 [] := Keep.trans (Keep.refl h0 []) K4 all0
    have Kp9 : Keep h0 h7 [] := Keep.trans Kp8 K7 (allS (Or.inr (Nat.le_trans (Keep.refl h0 []).1 (Nat.le_of_eq g4.symm))) all0)
    have G10 := (Ex4.keep K7)
    have VF : Ary Z h7 ac .byte M (fun t => .int (if t < N then g t else 0)) := V7.congr fun t ht => by
      by_cases q : t < N
      · rw [if_pos (by omega), if_pos q]
      · rw [if_neg (by omega), if_neg q]
    exact k_retA X7 hx hlk (by decide) (by decide) hret rfl rfl (hb hby d6_32) ⟨ac, rfl, N7, by rw [e7]; exact Kp9, (Nat.le_of_eq g4.symm), by rw [e7]; exact G10, by rw [e7]; exact VF⟩
  · have hMN : M = N := (own_eqi hM hN32).mp hc1
    refine k_aloadN X0 hx (q := 7) rfl (hb hby d6_6) rfl rfl ?_
    refine k_clone X0 hx hZ (ad := "[B") hown (hw _ (List.mem_of_getElem? (i := 51) rfl)) (hw _ (List.mem_of_getElem? (i := 52) rfl)) (hw _ (List.mem_of_getElem? (i := 56) rfl)) (hw _ (List.mem_of_getElem? (i := 54) rfl)) (hw _ (List.mem_of_getElem? (i := 55) rfl)) (hw _ (List.mem_of_getElem? (i := 57) rfl)) e0 V E0 G (q := 10) rfl (hb hby d6_7) (by rw [hml]; rfl) (by decide) 0 2047 (by first | exact Nat.le_refl _ | simp [Value.category]) (by decide) hN (by decide) (by decide) ?_
    intro T2 h2 ac X2 e2 g2 E2 V2 Ex2
    have K2 := Keep.of_ext E2
    refine k_cast X2 hx hZ hown (hw _ (List.mem_of_getElem? (i := 58) rfl)) e2 (q := 13) rfl (hb hby d6_10) (Ins.self Ex2) ?_
    intro T3 X3 e3
    exact k_retA X3 hx hlk (by decide) (by decide) hret rfl rfl (hb hby d6_13) ⟨ac, rfl, N0, by rw [e3]; exact K2, Nat.le_of_eq g2.symm, by rw [e3]; exact Ex2, by rw [e3, hMN]; exact V2.congr fun t ht => by rw [if_pos ht]⟩
theorem d5_0 : decode prog_12_method_5_code 0 = .ok (.aload_n 0, 1) := by decide +kernel
theorem d5_1 : decode prog_12_method_5_code 1 = .ok (.getfield 9, 3) := by decide +kernel
theorem d5_4 : decode prog_12_method_5_code 4 = .ok (.aload_n 0, 1) := by decide +kernel
theorem d5_5 : decode prog_12_method_5_code 5 = .ok (.getfield 34, 3) := by decide +kernel
theorem d5_8 : decode prog_12_method_5_code 8 = .ok (.invokestatic 24, 3) := by decide +kernel
theorem d5_11 : decode prog_12_method_5_code 11 = .ok (.areturn, 1) := by decide +kernel
theorem ef_5 (m : MethodId) (x0 : Addr) : entryFrame m #[(.ref x0)] 1 = mkF m 0 #[.val (.ref x0)] [] := by first | (simp [entryFrame, mkF, argsToLocals, Value.category]; done) | rfl
set_option maxRecDepth 65536 in
set_option maxHeartbeats 40000000 in
theorem rm5 (l : Launch) (Z : State) (a0 : Array Value) (hw : ∀ d ∈ tables_1, d.before a0 Z = true) (x0 : Addr) (h0 : Heap) (n0 : Nat) (Z0 : n0 ≤ h0.size) (b : Addr) (x1 : Int32) (F1 : Fld Z h0 x0 "com/example/keyshelf/keyshelf/berkeleydb/ItemBytes" "bytes" "[B" (.ref b)) (F2 : Fld Z h0 x0 "com/example/keyshelf/keyshelf/berkeleydb/ItemBytes" "length" "I" (.int x1)) (N M : Nat) (g : Nat → Int32) (hN : N ≤ 2047) (hM : Ix x1 M) (hM2 : M ≤ 2047) (V : Ary Z h0 b .byte N (fun t => .int (g t))) (G : ∀ t, t < N → fits .byte (.int (g t)) = true) (E0 : Exa Z h0 b "[B") :
    Con l Z (⟨"com/example/keyshelf/keyshelf/berkeleydb/ItemBytes", "toArray", "()[B"⟩ : MethodName) prog_12_method_5_code 1 (some (.array .byte)) [] ({ frames := 2, cells := 1, slots := 2047, locals := 54 } : Room) #[(.ref x0)] h0 (fun v h L => ∃ a : Addr, v = some (.ref a) ∧ Fr n0 L ∧ Keep h0 h [] ∧ h0.size ≤ a ∧ Exa Z h a "[B" ∧ Ary Z h a .byte M (fun t => .int (if t < N then g t else 0))) := by
  refine Con.of (plainFor_of_name pn_1) ?_
  intro p e s m below meth c s₁ X0 hx hby hml hown hnm hret hlk hZ e0
  refine End.cast ?_ (ef_5 m x0)
  have N0 := Fr.nil n0
  refine k_aloadN X0 hx (q := 1) rfl (hb hby d5_0) rfl rfl ?_
  refine k_getF X0 hx hZ (host := "") hown (Or.inl (hw _ (List.mem_of_getElem? (i := 10) rfl))) Via.refl e0 (q := 4) rfl (hb hby d5_1) F1 ?_
  intro T1 X1 e1
  refine k_aloadN X1 hx (q := 5) rfl (hb hby d5_4) rfl rfl ?_
  refine k_getF X1 hx hZ (host := "") hown (Or.inl (hw _ (List.mem_of_getElem? (i := 23) rfl))) Via.refl e1 (q := 8) rfl (hb hby d5_5) F2 ?_
  intro T2 X2 e2
  refine k_callS X2 hx hZ (y := (⟨"java/util/Arrays", "copyOf", "([BI)[B"⟩ : MethodName)) hown (hw _ (List.mem_of_getElem? (i := 30) rfl)) (hw _ (List.mem_of_getElem? (i := 31) rfl)) (hw _ (List.mem_of_getElem? (i := 32) rfl)) (hw _ (List.mem_of_getElem? (i := 33) rfl)) (by decide) 0 e2 (rm6 l Z a0 hw b x1 h0 n0 Z0 N M g hN hM hM2 V G E0) (by decide) (by decide) (by decide) (by decide) (by rw [hml]; rfl) (as := [(.ref b), (.int x1)]) (rest := []) pd_1 rfl (by first | exact Nat.le_refl _ | simp [Value.category]) (q := 11) rfl (hb hby d5_8) ?_
  rintro _ T3 L3 X3 ⟨a, rfl, N3q, K3, le3, E3, V3⟩
  have N3 := Fr.app N0 N3q
  show End _ _ _ _ _ _ _ (T3.setTop (mkF m 11 #[.val (.ref x0)] [(.ref a)]))
  exact k_retA X3 hx hlk (by decide) (by decide) hret rfl rfl (hb hby d5_11) ⟨a, rfl, N3, K3, le3, E3, V3⟩
theorem d4_0 : decode prog_12_method_3_code 0 = .ok (.aload_n 0, 1) := by decide +kernel
theorem d4_1 : decode prog_12_method_3_code 1 = .ok (.iload_n 1, 1) := by decide +kernel
theorem d4_2 : decode prog_12_method_3_code 2 = .ok (.putfield 34, 3) := by decide +kernel
theorem d4_5 : decode prog_12_method_3_code 5 = .ok (.return_, 1) := by decide +kernel
theorem ef_4 (m : MethodId) (x0 : Addr) (x1 : Int32) : entryFrame m #[(.ref x0), (.int x1)] 2 = mkF m 0 #[.val (.ref x0), .val (.int x1)] [] := by first | (simp [entryFrame, mkF, argsToLocals, Value.category]; done) | rfl
set_option maxRecDepth 65536 in
set_option maxHeartbeats 40000000 in
theorem rm4 (l : Launch) (Z : State) (a0 : Array Value) (hw : ∀ d ∈ tables_1, d.before a0 Z = true) (x0 : Addr) (x1 : Int32) (h0 : Heap) (n0 : Nat) (ga : n0 ≤ x0) (E0 : Exa Z h0 x0 "com/example/keyshelf/keyshelf/berkeleydb/ItemBytes") (b : Addr) (F1 : Fld Z h0 x0 "com/example/keyshelf/keyshelf/berkeleydb/ItemBytes" "bytes" "[B" (.ref b)) (F2 : Fld Z h0 x0 "com/example/keyshelf/keyshelf/berkeleydb/ItemBytes" "length" "I" (.int (0 : Int32))) :
    Con l Z (⟨"com/example/keyshelf/keyshelf/berkeleydb/ItemBytes", "setLength", "(I)V"⟩ : MethodName) prog_12_method_3_code 2 none [] ({ frames := 0, cells := 0, slots := 0, locals := 0 } : Room) #[(.ref x0), (.int x1)] h0 (fun v h L => v = none ∧ Fr n0 L ∧ Keep h0 h [x0] ∧ Fld Z h x0 "com/example/keyshelf/keyshelf/berkeleydb/ItemBytes" "length" "I" (.int x1) ∧ Fld Z h x0 "com/example/keyshelf/keyshelf/berkeleydb/ItemBytes" "bytes" "[B" (.ref b)) := by
  refine Con.of (plainFor_of_name pn_1) ?_
  intro p e s m below meth c s₁ X0 hx hby hml hown hnm hret hlk hZ e0
  refine End.cast ?_ (ef_4 m x0 x1)
  have N0 := Fr.nil n0
  refine k_aloadN X0 hx (q := 1) rfl (hb hby d4_0) rfl rfl ?_
  refine k_iloadN X0 hx (q := 2) rfl (hb hby d4_1) rfl ?_
  refine k_putF X0 hx hZ (host := "") hown (Or.inl (hw _ (List.mem_of_getElem? (i := 23) rfl))) Via.refl e0 (Or.inl (hw _ (List.mem_of_getElem? (i := 24) rfl))) (hw _ (List.mem_of_getElem? (i := 1) rfl)) (ty := .int) (by decide) rfl rfl (q := 5) rfl (hb hby d4_2) F2 E0 ?_
  intro T1 h1 X1 e1 W1
  have K1 := Keep.of_wr W1
  have N1 := Fr.snoc X1 N0 ga
  have Fw1 := (F2).same W1
  have Kp2 : Keep h0 h1 [x0] := Keep.trans (Keep.refl h0 [x0]) K1 (allS (Or.inl (List.mem_of_getElem? (i := 0) rfl)) all0)
  have G3 := (F1.other W1 (Or.inr (slot_ne (t := (.array .byte)) (t' := .int) (Or.inl (hw _ (List.mem_of_getElem? (i := 11) rfl))) (Or.inl (hw _ (List.mem_of_getElem? (i := 24) rfl))) (by decide) (by decide) (by decide))))
  exact k_retV X1 hx hlk (by decide) (by decide) hret (hb hby d4_5) ⟨rfl, N1, by rw [e1]; exact Kp2, by rw [e1]; exact Fw1, by rw [e1]; exact G3⟩
theorem d1_0 : decode prog_12_method_1_code 0 = .ok (.aload_n 0, 1) := by decide +kernel
theorem d1_1 : decode prog_12_method_1_code 1 = .ok (.invokespecial 1, 3) := by decide +kernel
theorem d1_4 : decode prog_12_method_1_code 4 = .ok (.aload_n 0, 1) := by decide +kernel
theorem d1_5 : decode prog_12_method_1_code 5 = .ok (.sipush 512, 3) := by decide +kernel
theorem d1_8 : decode prog_12_method_1_code 8 = .ok (.newarray .byte, 2) := by decide +kernel
theorem d1_10 : decode prog_12_method_1_code 10 = .ok (.putfield 9, 3) := by decide +kernel
theorem d1_13 : decode prog_12_method_1_code 13 = .ok (.return_, 1) := by decide +kernel
theorem ef_1 (m : MethodId) (x0 : Addr) : entryFrame m #[(.ref x0)] 1 = mkF m 0 #[.val (.ref x0)] [] := by first | (simp [entryFrame, mkF, argsToLocals, Value.category]; done) | rfl
set_option maxRecDepth 65536 in
set_option maxHeartbeats 40000000 in
theorem rm1 (l : Launch) (Z : State) (a0 : Array Value) (hw : ∀ d ∈ tables_1, d.before a0 Z = true) (x0 : Addr) (h0 : Heap) (n0 : Nat) (Z0 : n0 ≤ h0.size) (ga : n0 ≤ x0) (E0 : Exa Z h0 x0 "com/example/keyshelf/keyshelf/berkeleydb/ItemBytes") (F_bytes : Fld Z h0 x0 "com/example/keyshelf/keyshelf/berkeleydb/ItemBytes" "bytes" "[B" .null) (F_view : Fld Z h0 x0 "com/example/keyshelf/keyshelf/berkeleydb/ItemBytes" "view" "Ljava/nio/ByteBuffer;" .null) (F_length : Fld Z h0 x0 "com/example/keyshelf/keyshelf/berkeleydb/ItemBytes" "length" "I" (.int (0 : Int32))) :
    Con l Z (⟨"com/example/keyshelf/keyshelf/berkeleydb/ItemBytes", "<init>", "()V"⟩ : MethodName) prog_12_method_1_code 1 none [] ({ frames := 1, cells := 1, slots := 512, locals := 12 } : Room) #[(.ref x0)] h0 (fun v h L => v = none ∧ Fr n0 L ∧ Keep h0 h [x0] ∧ ∃ b : Addr, h0.size ≤ b ∧ Fld Z h x0 "com/example/keyshelf/keyshelf/berkeleydb/ItemBytes" "bytes" "[B" (.ref b) ∧ Fld Z h x0 "com/example/keyshelf/keyshelf/berkeleydb/ItemBytes" "view" "Ljava/nio/ByteBuffer;" .null ∧ Fld Z h x0 "com/example/keyshelf/keyshelf/berkeleydb/ItemBytes" "length" "I" (.int (0 : Int32)) ∧ Exa Z h b "[B" ∧ Ary Z h b .byte 512 (fun _ => .int (0 : Int32))) := by
  refine Con.of (plainFor_of_name pn_1) ?_
  intro p e s m below meth c s₁ X0 hx hby hml hown hnm hret hlk hZ e0
  refine End.cast ?_ (ef_1 m x0)
  have N0 := Fr.nil n0
  refine k_aloadN X0 hx (q := 1) rfl (hb hby d1_0) rfl rfl ?_
  refine k_initO X0 hx hZ hown (hw _ (List.mem_of_getElem? (i := 6) rfl)) (hw _ (List.mem_of_getElem? (i := 7) rfl)) (hw _ (List.mem_of_getElem? (i := 8) rfl)) e0 (q := 4) rfl (hb hby d1_1) (by rw [hml]; rfl) (by decide) 0 (by first | exact Nat.le_refl _ | simp [Value.category]) (by decide) ?_
  intro T1 X1 e1
  refine k_aloadN X1 hx (q := 5) rfl (hb hby d1_4) rfl rfl ?_
  refine k_sipush X1 hx (v := (512 : Int32)) rfl (q := 8) rfl (hb hby d1_5) ?_
  refine k_newE X1 hx hZ (hw _ (List.mem_of_getElem? (i := 9) rfl)) e1 (q := 10) rfl (hb hby d1_8) (by decide) (cap := 512) (by decide) (by decide) (by decide) (by decide) rfl ?_
  intro T2 h2 ab k2 X2 e2 g2 E2 A2 Ex2
  have K2 := Keep.of_ext E2
  have V2 : Ary Z h2 ab .byte 512 (fun _ => .int (0 : Int32)) := Ary.new A2 (by decide) rfl
  have G3 := (F_bytes.keep K2 nin0)
  have G4 := (E0.keep K2)
  refine k_putF X2 hx hZ (host := "") hown (Or.inl (hw _ (List.mem_of_getElem? (i := 10) rfl))) Via.refl e2 (Or.inl (hw _ (List.mem_of_getElem? (i := 11) rfl))) (hw _ (List.mem_of_getElem? (i := 1) rfl)) (ty := (.array .byte)) (by decide) rfl rfl (q := 13) rfl (hb hby d1_10) G3 G4 ?_
  intro T5 h5 X5 e5 W5
  have K5 := Keep.of_wr W5
  have N5 := Fr.snoc X5 N0 ga
  have Fw5 := (G3).same W5
  have Kp6 : Keep h0 h2 [x0] := Keep.trans (Keep.refl h0 [x0]) K2 all0
  have Kp7 : Keep h0 h5 [x0] := Keep.trans Kp6 K5 (allS (Or.inl (List.mem_of_getElem? (i := 0) rfl)) all0)
  have G8 := ((F_view.keep K2 nin0).other W5 (Or.inr (slot_ne (t := (.object "java/nio/ByteBuffer")) (t' := (.array .byte)) (Or.inl (hw _ (List.mem_of_getElem? (i := 50) rfl))) (Or.inl (hw _ (List.mem_of_getElem? (i := 11) rfl))) (by decide) (by decide) (by decide))))
  have G9 := ((F_length.keep K2 nin0).other W5 (Or.inr (slot_ne (t := .int) (t' := (.array .byte)) (Or.inl (hw _ (List.mem_of_getElem? (i := 24) rfl))) (Or.inl (hw _ (List.mem_of_getElem? (i := 11) rfl))) (by decide) (by decide) (by decide))))
  have G10 := (Ex2.keep K5)
  have ne_x0_ab : x0 ≠ ab := Nat.ne_of_lt (Nat.lt_of_lt_of_le (E0).lt (Nat.le_of_eq g2.symm))
  have G11 := (V2.keep K5 (ninS (Ne.symm ne_x0_ab) nin0))
  exact k_retV X5 hx hlk (by decide) (by decide) hret (hb hby d1_13) ⟨rfl, N5, by rw [e5]; exact Kp7, ab, (Nat.le_of_eq g2.symm), by rw [e5]; exact Fw5, by rw [e5]; exact G8, by rw [e5]; exact G9, by rw [e5]; exact G10, by rw [e5]; exact G11⟩
theorem own_grow {x1 : Int32} {x2 : Int64} {k : Nat} (h1 : Ix x1 k) (h2 : x2 = x1.toInt64) (hk : 512 < k) (hk2 : k ≤ 2047) : (f9 x2 (f8 ((2 : Int64) * (512 : Int32).toInt64) x1.toInt64)).toInt32 = x1 := by
  have e1 := c_i2l x1
  have i1 := h1.int
  have e : (f9 x2 (f8 ((2 : Int64) * (512 : Int32).toInt64) x1.toInt64)) = x2 := by
    unfold f9 f8
    have k0 : ((2 : Int64) * (512 : Int32).toInt64).toInt = 1024 := by decide
    by_cases q : ((2 : Int64) * (512 : Int32).toInt64) < x1.toInt64
    · rw [if_pos q, if_neg (by rw [h2, Int64.lt_iff_toInt_lt]; omega)]
    · rw [if_neg q, if_neg (by rw [h2]; exact q)]
  rw [e, h2]
  have := c_l2i x1.toInt64
  have r1 := rng32 x1
  have r2 := rng32 x1.toInt64.toInt32
  rw [← Int32.toInt_inj]; omega
theorem d3_0 : decode prog_12_method_2_code 0 = .ok (.iload_n 1, 1) := by decide +kernel
theorem d3_1 : decode prog_12_method_2_code 1 = .ok (.aload_n 0, 1) := by decide +kernel
theorem d3_2 : decode prog_12_method_2_code 2 = .ok (.getfield 9, 3) := by decide +kernel
theorem d3_5 : decode prog_12_method_2_code 5 = .ok (.arraylength, 1) := by decide +kernel
theorem d3_6 : decode prog_12_method_2_code 6 = .ok (.if_icmp .le 39, 3) := by decide +kernel
theorem d3_9 : decode prog_12_method_2_code 9 = .ok (.aload_n 0, 1) := by decide +kernel
theorem d3_10 : decode prog_12_method_2_code 10 = .ok (.aload_n 0, 1) := by decide +kernel
theorem d3_11 : decode prog_12_method_2_code 11 = .ok (.getfield 9, 3) := by decide +kernel
theorem d3_14 : decode prog_12_method_2_code 14 = .ok (.lload_n 2, 1) := by decide +kernel
theorem d3_15 : decode prog_12_method_2_code 15 = .ok (.ldc2_w 13, 3) := by decide +kernel
theorem d3_18 : decode prog_12_method_2_code 18 = .ok (.aload_n 0, 1) := by decide +kernel
theorem d3_19 : decode prog_12_method_2_code 19 = .ok (.getfield 9, 3) := by decide +kernel
theorem d3_22 : decode prog_12_method_2_code 22 = .ok (.arraylength, 1) := by decide +kernel
theorem d3_23 : decode prog_12_method_2_code 23 = .ok (.i2l, 1) := by decide +kernel
theorem d3_24 : decode prog_12_method_2_code 24 = .ok (.lmul, 1) := by decide +kernel
theorem d3_25 : decode prog_12_method_2_code 25 = .ok (.iload_n 1, 1) := by decide +kernel
theorem d3_26 : decode prog_12_method_2_code 26 = .ok (.i2l, 1) := by decide +kernel
theorem d3_27 : decode prog_12_method_2_code 27 = .ok (.invokestatic 15, 3) := by decide +kernel
theorem d3_30 : decode prog_12_method_2_code 30 = .ok (.invokestatic 21, 3) := by decide +kernel
theorem d3_33 : decode prog_12_method_2_code 33 = .ok (.l2i, 1) := by decide +kernel
theorem d3_34 : decode prog_12_method_2_code 34 = .ok (.invokestatic 24, 3) := by decide +kernel
theorem d3_37 : decode prog_12_method_2_code 37 = .ok (.putfield 9, 3) := by decide +kernel
theorem d3_40 : decode prog_12_method_2_code 40 = .ok (.aload_n 0, 1) := by decide +kernel
theorem d3_41 : decode prog_12_method_2_code 41 = .ok (.aconst_null, 1) := by decide +kernel
theorem d3_42 : decode prog_12_method_2_code 42 = .ok (.putfield 30, 3) := by decide +kernel
theorem d3_45 : decode prog_12_method_2_code 45 = .ok (.aload_n 0, 1) := by decide +kernel
theorem d3_46 : decode prog_12_method_2_code 46 = .ok (.getfield 9, 3) := by decide +kernel
theorem d3_49 : decode prog_12_method_2_code 49 = .ok (.areturn, 1) := by decide +kernel
theorem ef_3 (m : MethodId) (x0 : Addr) (x1 : Int32) (x2 : Int64) : entryFrame m #[(.ref x0), (.int x1), (.long x2)] 4 = mkF m 0 #[.val (.ref x0), .val (.int x1), .val (.long x2), .second] [] := by first | (simp [entryFrame, mkF, argsToLocals, Value.category]; done) | rfl
set_option maxRecDepth 65536 in
set_option maxHeartbeats 40000000 in
theorem rm3 (l : Launch) (Z : State) (a0 : Array Value) (hw : ∀ d ∈ tables_1, d.before a0 Z = true) (x0 : Addr) (x1 : Int32) (x2 : Int64) (h0 : Heap) (n0 : Nat) (Z0 : n0 ≤ h0.size) (ga : n0 ≤ x0) (E0 : Exa Z h0 x0 "com/example/keyshelf/keyshelf/berkeleydb/ItemBytes") (b : Addr) (gb : n0 ≤ b) (nb : b ≠ x0) (F1 : Fld Z h0 x0 "com/example/keyshelf/keyshelf/berkeleydb/ItemBytes" "bytes" "[B" (.ref b)) (F2 : Fld Z h0 x0 "com/example/keyshelf/keyshelf/berkeleydb/ItemBytes" "view" "Ljava/nio/ByteBuffer;" .null) (F3 : Fld Z h0 x0 "com/example/keyshelf/keyshelf/berkeleydb/ItemBytes" "length" "I" (.int (0 : Int32))) (Eb : Exa Z h0 b "[B") (V : Ary Z h0 b .byte 512 (fun _ => .int (0 : Int32))) (k : Nat) (hx1 : Ix x1 k) (hk2 : k ≤ 2047) (hx2 : x2 = x1.toInt64) :
    Con l Z (⟨"com/example/keyshelf/keyshelf/berkeleydb/ItemBytes", "room", "(IJ)[B"⟩ : MethodName) prog_12_method_2_code 4 (some (.array .byte)) [] ({ frames := 2, cells := 1, slots := 2047, locals := 55 } : Room) #[(.ref x0), (.int x1), (.long x2)] h0 (fun v h L => ∃ b : Addr, v = some (.ref b) ∧ Fr n0 L ∧ Keep h0 h [x0] ∧ Fld Z h x0 "com/example/keyshelf/keyshelf/berkeleydb/ItemBytes" "bytes" "[B" (.ref b) ∧ Fld Z h x0 "com/example/keyshelf/keyshelf/berkeleydb/ItemBytes" "length" "I" (.int (0 : Int32)) ∧ Exa Z h b "[B" ∧ n0 ≤ b ∧ b ≠ x0 ∧ Ary Z h b .byte (max 512 k) (fun _ => .int (0 : Int32))) := by
  refine Con.of (plainFor_of_name pn_1) ?_
  intro p e s m below meth c s₁ X0 hx hby hml hown hnm hret hlk hZ e0
  refine End.cast ?_ (ef_3 m x0 x1 x2)
  have N0 := Fr.nil n0
  refine k_iloadN X0 hx (q := 1) rfl (hb hby d3_0) rfl ?_
  refine k_aloadN X0 hx (q := 2) rfl (hb hby d3_1) rfl rfl ?_
  refine k_getF X0 hx hZ (host := "") hown (Or.inl (hw _ (List.mem_of_getElem? (i := 10) rfl))) Via.refl e0 (q := 5) rfl (hb hby d3_2) F1 ?_
  intro T1 X1 e1
  refine k_al X1 hx hZ e1 (z := (512 : Int32)) (q := 6) rfl (hb hby d3_5) V (by decide) ?_
  refine k_icmp_le X1 hx (q1 := 45) (q := 9) (by decide) (by decide) rfl (hb hby d3_6) (fun hc2 => ?_) (fun hc2 => ?_)
  · refine k_aloadN X1 hx (q := 46) rfl (hb hby d3_45) rfl rfl ?_
    refine k_getF X1 hx hZ (host := "") hown (Or.inl (hw _ (List.mem_of_getElem? (i := 10) rfl))) Via.refl e1 (q := 49) rfl (hb hby d3_46) F1 ?_
    intro T3 X3 e3
    have hk : ¬ 512 < k := mt (own_lt (k := 512) (n := k) ⟨by decide, by decide⟩ hx1).mpr hc2
    exact k_retA X3 hx hlk (by decide) (by decide) hret rfl rfl (hb hby d3_49) ⟨b, rfl, N0, by rw [e3]; exact (Keep.refl h0 [x0]), by rw [e3]; exact F1, by rw [e3]; exact F3, by rw [e3]; exact Eb, gb, nb, by rw [e3, Nat.max_eq_left (by omega)]; exact V⟩
  · have hk : 512 < k := (own_lt (k := 512) (n := k) ⟨by decide, by decide⟩ hx1).mp hc2
    refine k_aloadN X1 hx (q := 10) rfl (hb hby d3_9) rfl rfl ?_
    refine k_aloadN X1 hx (q := 11) rfl (hb hby d3_10) rfl rfl ?_
    refine k_getF X1 hx hZ (host := "") hown (Or.inl (hw _ (List.mem_of_getElem? (i := 10) rfl))) Via.refl e1 (q := 14) rfl (hb hby d3_11) F1 ?_
    intro T4 X4 e4
    refine k_lloadN X4 hx (q := 15) rfl (hb hby d3_14) rfl ?_
    refine k_ldc2J X4 hx hZ (v := (2 : Int64)) hown (hw _ (List.mem_of_getElem? (i := 42) rfl)) (q := 18) rfl (hb hby d3_15) ?_
    refine k_aloadN X4 hx (q := 19) rfl (hb hby d3_18) rfl rfl ?_
    refine k_getF X4 hx hZ (host := "") hown (Or.inl (hw _ (List.mem_of_getElem? (i := 10) rfl))) Via.refl e4 (q := 22) rfl (hb hby d3_19) F1 ?_
    intro T5 X5 e5
    refine k_al X5 hx hZ e5 (z := (512 : Int32)) (q := 23) rfl (hb hby d3_22) V (by decide) ?_
    refine k_i2l X5 hx (q := 24) rfl (hb hby d3_23) ?_
    refine k_lmul X5 hx (q := 25) rfl (hb hby d3_24) ?_
    refine k_iloadN X5 hx (q := 26) rfl (hb hby d3_25) rfl ?_
    refine k_i2l X5 hx (q := 27) rfl (hb hby d3_26) ?_
    refine k_callS X5 hx hZ (y := (⟨"java/lang/Math", "max", "(JJ)J"⟩ : MethodName)) hown (hw _ (List.mem_of_getElem? (i := 43) rfl)) (hw _ (List.mem_of_getElem? (i := 44) rfl)) (hw _ (List.mem_of_getElem? (i := 36) rfl)) (hw _ (List.mem_of_getElem? (i := 45) rfl)) (by decide) 4 e5 (rm8 l Z a0 hw ((2 : Int64) * (512 : Int32).toInt64) x1.toInt64 h0 n0) (by decide) (by decide) (by decide) (by decide) (by rw [hml]; rfl) (as := [(.long ((2 : Int64) * (512 : Int32).toInt64)), (.long x1.toInt64)]) (rest := [(.long x2), (.ref b), (.ref x0)]) pd_2 rfl (by first | exact Nat.le_refl _ | simp [Value.category]) (q := 30) rfl (hb hby d3_27) ?_
    rintro _ T6 L6 X6 ⟨rfl, N6q, e6⟩
    have N6 := Fr.app N0 N6q
    show End _ _ _ _ _ _ _ (T6.setTop (mkF m 30 #[.val (.ref x0), .val (.int x1), .val (.long x2), .second] [(.long (f8 ((2 : Int64) * (512 : Int32).toInt64) x1.toInt64)), (.long x2), (.ref b), (.ref x0)]))
    refine k_callS X6 hx hZ (y := (⟨"java/lang/Math", "min", "(JJ)J"⟩ : MethodName)) hown (hw _ (List.mem_of_getElem? (i := 46) rfl)) (hw _ (List.mem_of_getElem? (i := 47) rfl)) (hw _ (List.mem_of_getElem? (i := 36) rfl)) (hw _ (List.mem_of_getElem? (i := 48) rfl)) (by decide) 2 e6 (rm9 l Z a0 hw x2 (f8 ((2 : Int64) * (512 : Int32).toInt64) x1.toInt64) h0 n0) (by decide) (by decide) (by decide) (by decide) (by rw [hml]; rfl) (as := [(.long x2), (.long (f8 ((2 : Int64) * (512 : Int32).toInt64) x1.toInt64))]) (rest := [(.ref b), (.ref x0)]) pd_2 rfl (by first | exact Nat.le_refl _ | simp [Value.category]) (q := 33) rfl (hb hby d3_30) ?_
    rintro _ T7 L7 X7 ⟨rfl, N7q, e7⟩
    have N7 := Fr.app N6 N7q
    show End _ _ _ _ _ _ _ (T7.setTop (mkF m 33 #[.val (.ref x0), .val (.int x1), .val (.long x2), .second] [(.long (f9 x2 (f8 ((2 : Int64) * (512 : Int32).toInt64) x1.toInt64))), (.ref b), (.ref x0)]))
    refine k_l2i X7 hx (q := 34) rfl (hb hby d3_33) ?_
    rw [own_grow hx1 hx2 hk hk2]
    show End _ _ _ _ _ _ _ (T7.setTop (mkF m 34 #[.val (.ref x0), .val (.int x1), .val (.long x2), .second] [(.int x1), (.ref b), (.ref x0)]))
    refine k_callS X7 hx hZ (y := (⟨"java/util/Arrays", "copyOf", "([BI)[B"⟩ : MethodName)) hown (hw _ (List.mem_of_getElem? (i := 30) rfl)) (hw _ (List.mem_of_getElem? (i := 31) rfl)) (hw _ (List.mem_of_getElem? (i := 32) rfl)) (hw _ (List.mem_of_getElem? (i := 33) rfl)) (by decide) 1 e7 (rm6 l Z a0 hw b x1 h0 n0 Z0 512 k (fun _ => 0) (by decide) hx1 hk2 V (fun _ _ => own_zero) Eb) (by decide) (by decide) (by decide) (by decide) (by rw [hml]; rfl) (as := [(.ref b), (.int x1)]) (rest := [(.ref x0)]) pd_1 rfl (by first | exact Nat.le_refl _ | simp [Value.category]) (q := 37) rfl (hb hby d3_34) ?_
    rintro _ T8 L8 X8 ⟨b2, rfl, N8q, K8, le8, E8, V8⟩
    have N8 := Fr.app N7 N8q
    show End _ _ _ _ _ _ _ (T8.setTop (mkF m 37 #[.val (.ref x0), .val (.int x1), .val (.long x2), .second] [(.ref b2), (.ref x0)]))
    have G9 := (F1.keep K8 nin0)
    have G10 := (E0.keep K8)
    refine k_putF X8 hx hZ (host := "") hown (Or.inl (hw _ (List.mem_of_getElem? (i := 10) rfl))) Via.refl rfl (Or.inl (hw _ (List.mem_of_getElem? (i := 11) rfl))) (hw _ (List.mem_of_getElem? (i := 1) rfl)) (ty := (.array .byte)) (by decide) rfl rfl (q := 40) rfl (hb hby d3_37) G9 G10 ?_
    intro T11 h11 X11 e11 W11
    have K11 := Keep.of_wr W11
    have N11 := Fr.snoc X11 N8 ga
    have Fw11 := (G9).same W11
    refine k_aloadN X11 hx (q := 41) rfl (hb hby d3_40) rfl rfl ?_
    refine k_aconst_null X11 hx (q := 42) rfl (hb hby d3_41) ?_
    have G12 := ((F2.keep K8 nin0).other W11 (Or.inr (slot_ne (t := (.object "java/nio/ByteBuffer")) (t' := (.array .byte)) (Or.inl (hw _ (List.mem_of_getElem? (i := 50) rfl))) (Or.inl (hw _ (List.mem_of_getElem? (i := 11) rfl))) (by decide) (by decide) (by decide))))
    have G13 := (G10.keep K11)
    refine k_putF X11 hx hZ (host := "") hown (Or.inl (hw _ (List.mem_of_getElem? (i := 49) rfl))) Via.refl e11 (Or.inl (hw _ (List.mem_of_getElem? (i := 50) rfl))) (hw _ (List.mem_of_getElem? (i := 1) rfl)) (ty := (.object "java/nio/ByteBuffer")) (by decide) rfl rfl (q := 45) rfl (hb hby d3_42) G12 G13 ?_
    intro T14 h14 X14 e14 W14
    have K14 := Keep.of_wr W14
    have N14 := Fr.snoc X14 N11 ga
    have Fw14 := (G12).same W14
    refine k_aloadN X14 hx (q := 46) rfl (hb hby d3_45) rfl rfl ?_
    have G15 := (Fw11.other W14 (Or.inr (slot_ne (t := (.array .byte)) (t' := (.object "java/nio/ByteBuffer")) (Or.inl (hw _ (List.mem_of_getElem? (i := 11) rfl))) (Or.inl (hw _ (List.mem_of_getElem? (i := 50) rfl))) (by decide) (by decide) (by decide))))
    refine k_getF X14 hx hZ (host := "") hown (Or.inl (hw _ (List.mem_of_getElem? (i := 10) rfl))) Via.refl e14 (q := 49) rfl (hb hby d3_46) G15 ?_
    intro T16 X16 e16
    have Kp17 : Keep h0 T8.heap [x0] := Keep.trans (Keep.refl h0 [x0]) K8 all0
    have Kp18 : Keep h0 h11 [x0] := Keep.trans Kp17 K11 (allS (Or.inl (List.mem_of_getElem? (i := 0) rfl)) all0)
    have Kp19 : Keep h0 h14 [x0] := Keep.trans Kp18 K14 (allS (Or.inl (List.mem_of_getElem? (i := 0) rfl)) all0)
    have G20 := (((F3.keep K8 nin0).other W11 (Or.inr (slot_ne (t := .int) (t' := (.array .byte)) (Or.inl (hw _ (List.mem_of_getElem? (i := 24) rfl))) (Or.inl (hw _ (List.mem_of_getElem? (i := 11) rfl))) (by decide) (by decide) (by decide)))).other W14 (Or.inr (slot_ne (t := .int) (t' := (.object "java/nio/ByteBuffer")) (Or.inl (hw _ (List.mem_of_getElem? (i := 24) rfl))) (Or.inl (hw _ (List.mem_of_getElem? (i := 50) rfl))) (by decide) (by decide) (by decide))))
    have G21 := ((E8.keep K11).keep K14)
    have ne_x0_b2 : x0 ≠ b2 := Nat.ne_of_lt (Nat.lt_of_lt_of_le (E0).lt le8)
    have G22 := ((V8.keep K11 (ninS (Ne.symm ne_x0_b2) nin0)).keep K14 (ninS (Ne.symm ne_x0_b2) nin0))
    have ge_b2 : n0 ≤ b2 := Nat.le_trans Z0 le8
    exact k_retA X16 hx hlk (by decide) (by decide) hret rfl rfl (hb hby d3_49) ⟨b2, rfl, N14, by rw [e16]; exact Kp19, by rw [e16]; exact G15, by rw [e16]; exact G20, by rw [e16]; exact G21, ge_b2, (Ne.symm ne_x0_b2), by rw [e16, Nat.max_eq_right (by omega)]; exact G22.congr fun t _ => by rw [ite_self]⟩
theorem own_needed (x : Int32) : ∃ k, k ≤ 2047 ∧ Ix (x &&& (2047 : Int32)) k := by
  have e := c_mask x 2047 11 (by decide) (by decide)
  have : ((2 ^ 11 : Nat) : Int) = 2048 := by decide
  rw [this] at e
  refine ⟨(x &&& (2047 : Int32)).toInt.toNat, ?_, Ix.of ?_⟩ <;> omega
theorem own_len (x : Int32) {c : Int32} {N : Nat} (h : Ix c N) (hN : N ≤ 2047) : ¬ (c + (1 : Int32)) = 0 ∧ ∃ n, n ≤ N ∧ Ix ((x &&& (2147483647 : Int32)) % (c + (1 : Int32))) n := by
  have e := c_mask x 2147483647 31 (by decide) (by decide)
  have p : (0 : Int) ≤ (x &&& (2147483647 : Int32)).toInt := by rw [e]; exact Int.emod_nonneg _ (by decide)
  have u := own_up h (by omega)
  have q : (c + (1 : Int32)).toInt = (N : Int) + 1 := by rw [u.int]; omega
  have r := (c_irem (x &&& (2147483647 : Int32)) (c + (1 : Int32)) ((N : Int) + 1) q).1 p
  have r0 := Int.emod_nonneg (x &&& (2147483647 : Int32)).toInt (show ((N : Int) + 1) ≠ 0 by omega)
  have r1 := Int.emod_lt_of_pos (x &&& (2147483647 : Int32)).toInt (show (0 : Int) < (N : Int) + 1 by omega)
  refine ⟨fun z => ?_, ((x &&& (2147483647 : Int32)) % (c + (1 : Int32))).toInt.toNat, ?_, Ix.of ?_⟩
  · rw [← Int32.toInt_inj, q] at z
    have : (0 : Int32).toInt = 0 := by decide
    omega
  · omega
  · omega
theorem own_half {x : Int32} {n : Nat} (h : Ix x n) : Ix (x / (2 : Int32)) (n / 2) := by
  apply Ix.of
  have i := h.int
  rw [(c_idiv x 2 2 (by decide) (by decide)).1 (by omega)]
  omega
theorem own_pred {x : Int32} {n : Nat} (h : Ix x n) (hn : 0 < n) : Ix (x - (1 : Int32)) (n - 1) := by
  apply Ix.of
  have i := h.int
  have e := c_isub x 1
  have e1 : (1 : Int32).toInt = 1 := by decide
  have r := rng32 (x - 1)
  have r0 := rng32 x
  omega
theorem own_nar (x : Int32) : nar .byte x.toInt8.toInt32 = x.toInt8.toInt32 := by
  show x.toInt8.toInt32.toInt8.toInt32 = x.toInt8.toInt32
  rw [Int8.toInt8_toInt32]
def own_g (N n : Nat) (v0 vm vl vs : Int32) : Nat → Int32 := fun t => if t = n ∧ n < N then vs else if t = n - 1 ∧ 0 < n then vl else if t = n / 2 ∧ 0 < n then vm else if t = 0 ∧ 0 < n then v0 else 0
theorem own_gfit {N n : Nat} {a b c d : Int32} : ∀ t, t < N → fits .byte (.int (own_g N n a.toInt8.toInt32 b.toInt8.toInt32 c.toInt8.toInt32 d.toInt8.toInt32 t)) = true := by
  intro t _
  unfold own_g
  split
  · exact fits_nar_byte _
  split
  · exact fits_nar_byte _
  split
  · exact fits_nar_byte _
  split
  · exact fits_nar_byte _
  · decide
theorem own_at {N n : Nat} {v0 vm vl vs : Int32} (hn : 0 < n) (hN : n ≤ N) : own_g N n v0 vm vl vs 0 = (if n = 1 then vl else v0) ∧ own_g N n v0 vm vl vs (n / 2) = (if 2 < n then vm else vl) ∧ own_g N n v0 vm vl vs (n - 1) = vl ∧ (4 ≤ n → own_g N n v0 vm vl vs 1 = 0) := by
  refine ⟨?_, ?_, ?_, fun h => ?_⟩ <;> unfold own_g
  · rw [if_neg (by omega)]
    by_cases q : n = 1
    · rw [if_pos (by omega), if_pos q]
    · rw [if_neg (by omega), if_neg (by omega), if_pos (by omega), if_neg q]
  · rw [if_neg (by omega)]
    by_cases q : 2 < n
    · rw [if_neg (by omega), if_pos (by omega), if_pos q]
    · rw [if_pos (by omega), if_neg q]
  · rw [if_neg (by omega), if_pos (by omega)]
  · rw [if_neg (by omega), if_neg (by omega), if_neg (by omega), if_neg (by omega)]
theorem ef_0 (m : MethodId) (x0 : Int32) (x1 : Int32) (x2 : Int64) : entryFrame m #[(.int x0), (.int x1), (.long x2)] maxLocals = mkF m 0 #[.val (.int x0), .val (.int x1), .val (.long x2), .second, .unset, .unset, .unset, .unset, .unset, .unset, .unset, .unset, .unset, .unset, .unset, .unset, .unset, .unset, .unset] [] := by first | (simp [entryFrame, mkF, argsToLocals, Value.category, maxLocals]; done) | rfl
set_option maxRecDepth 65536 in
set_option maxHeartbeats 40000000 in
theorem rmL (l : Launch) (Z : State) (a0 : Array Value) (hw : ∀ d ∈ tables_1, d.before a0 Z = true) (x0 : Int32) (x1 : Int32) (x2 : Int64) (h0 : Heap) (n0 : Nat) (Z0 : n0 ≤ h0.size) :
    Con l Z x code maxLocals ret tables_1 room_1 #[(.int x0), (.int x1), (.long x2)] h0 (fun v h L => v = some (.int 1) ∧ Fr n0 L) := by
  refine Con.of (plainFor_of_name pn_2) ?_
  intro p e s m below meth c s₁ X0 hx hby hml hown hnm hret hlk hZ e0
  refine End.cast ?_ (ef_0 m x0 x1 x2)
  have N0 := Fr.nil n0
  refine k_new X0 hx hZ hown (hw _ (List.mem_of_getElem? (i := 0) rfl)) (hw _ (List.mem_of_getElem? (i := 1) rfl)) (hw _ (List.mem_of_getElem? (i := 2) rfl)) e0 (q := 3) rfl (hb hby at_0) (by decide) (by decide) ?_
  intro T1 h1 ib X1 e1 g1 E1 A1 D1
  have K1 := Keep.of_ext E1
  have F2 : Fld Z h1 ib "com/example/keyshelf/keyshelf/berkeleydb/ItemBytes" "bytes" "[B" .null := D1 (Or.inl (hw _ (List.mem_of_getElem? (i := 11) rfl))) (ty := (.array .byte)) (by decide)
  have F3 : Fld Z h1 ib "com/example/keyshelf/keyshelf/berkeleydb/ItemBytes" "length" "I" (.int (0 : Int32)) := D1 (Or.inl (hw _ (List.mem_of_getElem? (i := 24) rfl))) (ty := .int) (by decide)
  have F4 : Fld Z h1 ib "com/example/keyshelf/keyshelf/berkeleydb/ItemBytes" "view" "Ljava/nio/ByteBuffer;" .null := D1 (Or.inl (hw _ (List.mem_of_getElem? (i := 50) rfl))) (ty := (.object "java/nio/ByteBuffer")) (by decide)
  refine k_dup X1 hx (q := 4) rfl (hb hby at_3) rfl ?_
  have Sz5 : n0 ≤ h1.size := Nat.le_trans Z0 K1.1
  have ge_ib : n0 ≤ ib := Nat.le_trans Z0 (Nat.le_of_eq g1.symm)
  refine k_callI X1 hx hZ (y := (⟨"com/example/keyshelf/keyshelf/berkeleydb/ItemBytes", "<init>", "()V"⟩ : MethodName)) hown rfl (hw _ (List.mem_of_getElem? (i := 3) rfl)) (hw _ (List.mem_of_getElem? (i := 4) rfl)) (hw _ (List.mem_of_getElem? (i := 2) rfl)) (hw _ (List.mem_of_getElem? (i := 5) rfl)) (by decide) 1 e1 (rm1 l Z a0 hw ib h1 n0 Sz5 ge_ib A1 F2 F4 F3) (by decide) (by decide) (by decide) (by decide) (by rw [hml]; rfl) (a := ib) (as := []) (rest := [(.ref ib)]) pd_3 rfl (by first | exact Nat.le_refl _ | simp [Value.category]) (q := 7) rfl (hb hby at_4) ?_
  rintro _ T6 L6 X6 ⟨rfl, N6q, K6, b1, lb6, F16, F26, F36, E16, V16⟩
  have N6 := Fr.app N0 N6q
  show End _ _ _ _ _ _ _ (T6.setTop (mkF m 7 #[.val (.int x0), .val (.int x1), .val (.long x2), .second, .unset, .unset, .unset, .unset, .unset, .unset, .unset, .unset, .unset, .unset, .unset, .unset, .unset, .unset, .unset] [(.ref ib)]))
  obtain ⟨k, hk2, hk⟩ := own_needed x0
  refine k_astore X6 hx (L' := #[.val (.int x0), .val (.int x1), .val (.long x2), .second, .val (.ref ib), .unset, .unset, .unset, .unset, .unset, .unset, .unset, .unset, .unset, .unset, .unset, .unset, .unset, .unset]) (q := 9) rfl (hb hby at_7) rfl rfl ?_
  refine k_iloadN X6 hx (q := 10) rfl (hb hby at_9) rfl ?_
  refine k_sipush X6 hx (v := (2047 : Int32)) rfl (q := 13) rfl (hb hby at_10) ?_
  refine k_iand X6 hx (q := 14) rfl (hb hby at_13) ?_
  refine k_istore X6 hx (L' := #[.val (.int x0), .val (.int x1), .val (.long x2), .second, .val (.ref ib), .val (.int (x0 &&& (2047 : Int32))), .unset, .unset, .unset, .unset, .unset, .unset, .unset, .unset, .unset, .unset, .unset, .unset, .unset]) (q := 16) rfl (hb hby at_14) rfl ?_
  generalize hnd : (x0 &&& (2047 : Int32)) = nd
  rw [hnd] at hk
  refine k_aload X6 hx (q := 18) rfl (hb hby at_16) rfl rfl ?_
  refine k_iload X6 hx (q := 20) rfl (hb hby at_18) rfl ?_
  refine k_iload X6 hx (q := 22) rfl (hb hby at_20) rfl ?_
  refine k_i2l X6 hx (q := 23) rfl (hb hby at_22) ?_
  have Sz7 : n0 ≤ T6.heap.size := Nat.le_trans Sz5 K6.1
  have G8 := (A1.keep K6)
  have ge_b1 : n0 ≤ b1 := Nat.le_trans Sz5 lb6
  have ne_ib_b1 : ib ≠ b1 := Nat.ne_of_lt (Nat.lt_of_lt_of_le (A1).lt lb6)
  refine k_callV X6 hx hZ (y := (⟨"com/example/keyshelf/keyshelf/berkeleydb/ItemBytes", "room", "(IJ)[B"⟩ : MethodName)) (z := (⟨"com/example/keyshelf/keyshelf/berkeleydb/ItemBytes", "room", "(IJ)[B"⟩ : MethodName)) hown (hw _ (List.mem_of_getElem? (i := 12) rfl)) (hw _ (List.mem_of_getElem? (i := 13) rfl)) (notFace_of_selects (args := #[]) (mvT hZ (hw _ (List.mem_of_getElem? (i := 15) rfl)))) (hw _ (List.mem_of_getElem? (i := 15) rfl)) (hw _ (List.mem_of_getElem? (i := 14) rfl)) (hw _ (List.mem_of_getElem? (i := 16) rfl)) (hw _ (List.mem_of_getElem? (i := 2) rfl)) (by decide) G8 0 rfl (rm3 l Z a0 hw ib nd nd.toInt64 T6.heap n0 Sz7 ge_ib G8 b1 ge_b1 (Ne.symm ne_ib_b1) F16 F26 F36 E16 V16 k hk hk2 rfl) (by decide) (by decide) (by decide) (by decide) (by rw [hml]; rfl) (a := ib) (as := [(.int nd), (.long nd.toInt64)]) (rest := []) pd_4 rfl (by first | exact Nat.le_refl _ | simp [Value.category]) (q := 26) rfl (hb hby at_23) ?_
  rintro _ T9 L9 X9 ⟨bb, rfl, N9q, K9, F19, F39, E19, gb, nb, V9⟩
  have N9 := Fr.app N6 N9q
  show End _ _ _ _ _ _ _ (T9.setTop (mkF m 26 #[.val (.int x0), .val (.int x1), .val (.long x2), .second, .val (.ref ib), .val (.int nd), .unset, .unset, .unset, .unset, .unset, .unset, .unset, .unset, .unset, .unset, .unset, .unset, .unset] [(.ref bb)]))
  obtain ⟨N, hNe, hN5, hN2⟩ : ∃ N, N = max 512 k ∧ 512 ≤ N ∧ N ≤ 2047 := ⟨_, rfl, by omega, by omega⟩
  rw [← hNe] at V9
  have hcap := own_nat (k := N) (Nat.lt_of_le_of_lt hN2 (by decide))
  refine k_astore X9 hx (L' := #[.val (.int x0), .val (.int x1), .val (.long x2), .second, .val (.ref ib), .val (.int nd), .val (.ref bb), .unset, .unset, .unset, .unset, .unset, .unset, .unset, .unset, .unset, .unset, .unset, .unset]) (q := 28) rfl (hb hby at_26) rfl rfl ?_
  refine k_aload X9 hx (q := 30) rfl (hb hby at_28) rfl rfl ?_
  refine k_al X9 hx hZ rfl (z := N.toInt32) (q := 31) rfl (hb hby at_30) V9 rfl ?_
  refine k_istore X9 hx (L' := #[.val (.int x0), .val (.int x1), .val (.long x2), .second, .val (.ref ib), .val (.int nd), .val (.ref bb), .val (.int N.toInt32), .unset, .unset, .unset, .unset, .unset, .unset, .unset, .unset, .unset, .unset, .unset]) (q := 33) rfl (hb hby at_31) rfl ?_
  generalize hcp : N.toInt32 = cap
  rw [hcp] at hcap
  obtain ⟨hnz, n, hn, hlen⟩ := own_len x1 hcap hN2
  refine k_iloadN X9 hx (q := 34) rfl (hb hby at_33) rfl ?_
  refine k_ldcI X9 hx hZ (v := (2147483647 : Int32)) hown (hw _ (List.mem_of_getElem? (i := 17) rfl)) (q := 36) rfl (hb hby at_34) ?_
  refine k_iand X9 hx (q := 37) rfl (hb hby at_36) ?_
  refine k_iload X9 hx (q := 39) rfl (hb hby at_37) rfl ?_
  refine k_iconst X9 hx (v := (1 : Int32)) rfl (q := 40) rfl (hb hby at_39) ?_
  refine k_iadd X9 hx (q := 41) rfl (hb hby at_40) ?_
  refine k_irem X9 hx (q := 42) rfl (hb hby at_41) hnz ?_
  refine k_istore X9 hx (L' := #[.val (.int x0), .val (.int x1), .val (.long x2), .second, .val (.ref ib), .val (.int nd), .val (.ref bb), .val (.int cap), .val (.int ((x1 &&& (2147483647 : Int32)) % (cap + (1 : Int32)))), .unset, .unset, .unset, .unset, .unset, .unset, .unset, .unset, .unset, .unset]) (q := 44) rfl (hb hby at_42) rfl ?_
  generalize hln : ((x1 &&& (2147483647 : Int32)) % (cap + (1 : Int32))) = len
  rw [hln] at hlen
  refine k_lloadN X9 hx (q := 45) rfl (hb hby at_44) rfl ?_
  refine k_l2i X9 hx (q := 46) rfl (hb hby at_45) ?_
  refine k_i2b X9 hx (q := 47) rfl (hb hby at_46) ?_
  refine k_istore X9 hx (L' := #[.val (.int x0), .val (.int x1), .val (.long x2), .second, .val (.ref ib), .val (.int nd), .val (.ref bb), .val (.int cap), .val (.int len), .val (.int x2.toInt32.toInt8.toInt32), .unset, .unset, .unset, .unset, .unset, .unset, .unset, .unset, .unset]) (q := 49) rfl (hb hby at_47) rfl ?_
  refine k_lloadN X9 hx (q := 50) rfl (hb hby at_49) rfl ?_
  refine k_bipush X9 hx (v := (8 : Int32)) rfl (q := 52) rfl (hb hby at_50) ?_
  refine k_lushr X9 hx (q := 53) rfl (hb hby at_52) ?_
  refine k_l2i X9 hx (q := 54) rfl (hb hby at_53) ?_
  refine k_i2b X9 hx (q := 55) rfl (hb hby at_54) ?_
  refine k_istore X9 hx (L' := #[.val (.int x0), .val (.int x1), .val (.long x2), .second, .val (.ref ib), .val (.int nd), .val (.ref bb), .val (.int cap), .val (.int len), .val (.int x2.toInt32.toInt8.toInt32), .val (.int ((x2.toUInt64 >>> ((8 : Int32) &&& 0x3f).toInt64.toUInt64).toInt64).toInt32.toInt8.toInt32), .unset, .unset, .unset, .unset, .unset, .unset, .unset, .unset]) (q := 57) rfl (hb hby at_55) rfl ?_
  refine k_lloadN X9 hx (q := 58) rfl (hb hby at_57) rfl ?_
  refine k_bipush X9 hx (v := (16 : Int32)) rfl (q := 60) rfl (hb hby at_58) ?_
  refine k_lushr X9 hx (q := 61) rfl (hb hby at_60) ?_
  refine k_l2i X9 hx (q := 62) rfl (hb hby at_61) ?_
  refine k_i2b X9 hx (q := 63) rfl (hb hby at_62) ?_
  refine k_istore X9 hx (L' := #[.val (.int x0), .val (.int x1), .val (.long x2), .second, .val (.ref ib), .val (.int nd), .val (.ref bb), .val (.int cap), .val (.int len), .val (.int x2.toInt32.toInt8.toInt32), .val (.int ((x2.toUInt64 >>> ((8 : Int32) &&& 0x3f).toInt64.toUInt64).toInt64).toInt32.toInt8.toInt32), .val (.int ((x2.toUInt64 >>> ((16 : Int32) &&& 0x3f).toInt64.toUInt64).toInt64).toInt32.toInt8.toInt32), .unset, .unset, .unset, .unset, .unset, .unset, .unset]) (q := 65) rfl (hb hby at_63) rfl ?_
  refine k_lloadN X9 hx (q := 66) rfl (hb hby at_65) rfl ?_
  refine k_bipush X9 hx (v := (24 : Int32)) rfl (q := 68) rfl (hb hby at_66) ?_
  refine k_lushr X9 hx (q := 69) rfl (hb hby at_68) ?_
  refine k_l2i X9 hx (q := 70) rfl (hb hby at_69) ?_
  refine k_i2b X9 hx (q := 71) rfl (hb hby at_70) ?_
  refine k_istore X9 hx (L' := #[.val (.int x0), .val (.int x1), .val (.long x2), .second, .val (.ref ib), .val (.int nd), .val (.ref bb), .val (.int cap), .val (.int len), .val (.int x2.toInt32.toInt8.toInt32), .val (.int ((x2.toUInt64 >>> ((8 : Int32) &&& 0x3f).toInt64.toUInt64).toInt64).toInt32.toInt8.toInt32), .val (.int ((x2.toUInt64 >>> ((16 : Int32) &&& 0x3f).toInt64.toUInt64).toInt64).toInt32.toInt8.toInt32), .val (.int ((x2.toUInt64 >>> ((24 : Int32) &&& 0x3f).toInt64.toUInt64).toInt64).toInt32.toInt8.toInt32), .unset, .unset, .unset, .unset, .unset, .unset]) (q := 73) rfl (hb hby at_71) rfl ?_
  refine k_iload X9 hx (q := 75) rfl (hb hby at_73) rfl ?_
  refine k_iconst X9 hx (v := (2 : Int32)) rfl (q := 76) rfl (hb hby at_75) ?_
  refine k_idiv X9 hx (q := 77) rfl (hb hby at_76) (by decide) ?_
  refine k_istore X9 hx (L' := #[.val (.int x0), .val (.int x1), .val (.long x2), .second, .val (.ref ib), .val (.int nd), .val (.ref bb), .val (.int cap), .val (.int len), .val (.int x2.toInt32.toInt8.toInt32), .val (.int ((x2.toUInt64 >>> ((8 : Int32) &&& 0x3f).toInt64.toUInt64).toInt64).toInt32.toInt8.toInt32), .val (.int ((x2.toUInt64 >>> ((16 : Int32) &&& 0x3f).toInt64.toUInt64).toInt64).toInt32.toInt8.toInt32), .val (.int ((x2.toUInt64 >>> ((24 : Int32) &&& 0x3f).toInt64.toUInt64).toInt64).toInt32.toInt8.toInt32), .val (.int (len / (2 : Int32))), .unset, .unset, .unset, .unset, .unset]) (q := 79) rfl (hb hby at_77) rfl ?_
  refine k_iload X9 hx (q := 81) rfl (hb hby at_79) rfl ?_
  refine k_iconst X9 hx (v := (1 : Int32)) rfl (q := 82) rfl (hb hby at_81) ?_
  refine k_isub X9 hx (q := 83) rfl (hb hby at_82) ?_
  refine k_istore X9 hx (L' := #[.val (.int x0), .val (.int x1), .val (.long x2), .second, .val (.ref ib), .val (.int nd), .val (.ref bb), .val (.int cap), .val (.int len), .val (.int x2.toInt32.toInt8.toInt32), .val (.int ((x2.toUInt64 >>> ((8 : Int32) &&& 0x3f).toInt64.toUInt64).toInt64).toInt32.toInt8.toInt32), .val (.int ((x2.toUInt64 >>> ((16 : Int32) &&& 0x3f).toInt64.toUInt64).toInt64).toInt32.toInt8.toInt32), .val (.int ((x2.toUInt64 >>> ((24 : Int32) &&& 0x3f).toInt64.toUInt64).toInt64).toInt32.toInt8.toInt32), .val (.int (len / (2 : Int32))), .val (.int (len - (1 : Int32))), .unset, .unset, .unset, .unset]) (q := 85) rfl (hb hby at_83) rfl ?_
  have hmid := own_half hlen
  generalize hmd : (len / (2 : Int32)) = mid
  rw [hmd] at hmid
  refine k_iload X9 hx (q := 87) rfl (hb hby at_85) rfl ?_
  refine k_if_le X9 hx (q1 := 110) (q := 90) (by decide) (by decide) rfl (hb hby at_87) (fun hc10 => ?_) (fun hc10 => ?_)
  · have hn0 : n = 0 := by have := mt (own_lt (k := 0) (n := n) ⟨by decide, by decide⟩ hlen).mpr hc10; omega
    refine k_iload X9 hx (q := 112) rfl (hb hby at_110) rfl ?_
    refine k_iload X9 hx (q := 114) rfl (hb hby at_112) rfl ?_
    refine k_icmp_ge X9 hx (q1 := 124) (q := 117) (by decide) (by decide) rfl (hb hby at_114) (fun hc => absurd ((own_lt hlen hcap).mpr (by omega)) hc) (fun _ => ?_)
    refine k_aload X9 hx (q := 119) rfl (hb hby at_117) rfl rfl ?_
    refine k_iload X9 hx (q := 121) rfl (hb hby at_119) rfl ?_
    refine k_iload X9 hx (q := 123) rfl (hb hby at_121) rfl ?_
    refine k_asB X9 hx hZ rfl n (q := 124) rfl (hb hby at_123) V9 hlen (by omega) ?_
    intro T12 h12 X12 e12 W12 V12
    have K12 := Keep.of_wr W12
    have N12 := Fr.snoc X12 N9 gb
    have Vg : Ary Z h12 bb .byte N (fun t => .int ((own_g N n (x2.toInt32.toInt8.toInt32) (((x2.toUInt64 >>> ((8 : Int32) &&& 0x3f).toInt64.toUInt64).toInt64).toInt32.toInt8.toInt32) (((x2.toUInt64 >>> ((16 : Int32) &&& 0x3f).toInt64.toUInt64).toInt64).toInt32.toInt8.toInt32) (((x2.toUInt64 >>> ((24 : Int32) &&& 0x3f).toInt64.toUInt64).toInt64).toInt32.toInt8.toInt32)) t)) := V12.congr fun t ht => by
      simp only [own_nar]
      unfold own_g
      subst hn0
      by_cases q : t = 0
      · rw [if_pos q, if_pos ⟨q, by omega⟩]
      · rw [if_neg q, if_neg (fun c => q c.1), if_neg (fun c => absurd c.2 (by omega)), if_neg (fun c => absurd c.2 (by omega)), if_neg (fun c => absurd c.2 (by omega))]
    refine k_aload X12 hx (q := 126) rfl (hb hby at_124) rfl rfl ?_
    refine k_iload X12 hx (q := 128) rfl (hb hby at_126) rfl ?_
    have G13 := ((G8.keep K9).keep K12)
    have G14 := (F19.keep K12 (ninS (Ne.symm nb) nin0))
    have G15 := (F39.keep K12 (ninS (Ne.symm nb) nin0))
    refine k_callV X12 hx hZ (y := (⟨"com/example/keyshelf/keyshelf/berkeleydb/ItemBytes", "setLength", "(I)V"⟩ : MethodName)) (z := (⟨"com/example/keyshelf/keyshelf/berkeleydb/ItemBytes", "setLength", "(I)V"⟩ : MethodName)) hown (hw _ (List.mem_of_getElem? (i := 18) rfl)) (hw _ (List.mem_of_getElem? (i := 19) rfl)) (notFace_of_selects (args := #[]) (mvT hZ (hw _ (List.mem_of_getElem? (i := 21) rfl)))) (hw _ (List.mem_of_getElem? (i := 21) rfl)) (hw _ (List.mem_of_getElem? (i := 20) rfl)) (hw _ (List.mem_of_getElem? (i := 22) rfl)) (hw _ (List.mem_of_getElem? (i := 2) rfl)) (by decide) G13 0 e12 (rm4 l Z a0 hw ib len h12 n0 ge_ib G13 bb G14 G15) (by decide) (by decide) (by decide) (by decide) (by rw [hml]; rfl) (a := ib) (as := [(.int len)]) (rest := []) pd_5 rfl (by first | exact Nat.le_refl _ | simp [Value.category]) (q := 131) rfl (hb hby at_128) ?_
    rintro _ T16 L16 X16 ⟨rfl, N16q, K16, F316, F116⟩
    have N16 := Fr.app N12 N16q
    show End _ _ _ _ _ _ _ (T16.setTop (mkF m 131 #[.val (.int x0), .val (.int x1), .val (.long x2), .second, .val (.ref ib), .val (.int nd), .val (.ref bb), .val (.int cap), .val (.int len), .val (.int x2.toInt32.toInt8.toInt32), .val (.int ((x2.toUInt64 >>> ((8 : Int32) &&& 0x3f).toInt64.toUInt64).toInt64).toInt32.toInt8.toInt32), .val (.int ((x2.toUInt64 >>> ((16 : Int32) &&& 0x3f).toInt64.toUInt64).toInt64).toInt32.toInt8.toInt32), .val (.int ((x2.toUInt64 >>> ((24 : Int32) &&& 0x3f).toInt64.toUInt64).toInt64).toInt32.toInt8.toInt32), .val (.int mid), .val (.int (len - (1 : Int32))), .unset, .unset, .unset, .unset] []))
    refine k_aload X16 hx (q := 133) rfl (hb hby at_131) rfl rfl ?_
    have Sz19 : n0 ≤ T9.heap.size := Nat.le_trans Sz7 K9.1
    have Sz18 : n0 ≤ h12.size := Nat.le_trans Sz19 K12.1
    have Sz17 : n0 ≤ T16.heap.size := Nat.le_trans Sz18 K16.1
    have G20 := (Vg.keep K16 (ninS nb nin0))
    have G21 := ((E19.keep K12).keep K16)
    have G23 := (G13.keep K16)
    refine k_callV X16 hx hZ (y := (⟨"com/example/keyshelf/keyshelf/berkeleydb/ItemBytes", "toArray", "()[B"⟩ : MethodName)) (z := (⟨"com/example/keyshelf/keyshelf/berkeleydb/ItemBytes", "toArray", "()[B"⟩ : MethodName)) hown (hw _ (List.mem_of_getElem? (i := 25) rfl)) (hw _ (List.mem_of_getElem? (i := 26) rfl)) (notFace_of_selects (args := #[]) (mvT hZ (hw _ (List.mem_of_getElem? (i := 28) rfl)))) (hw _ (List.mem_of_getElem? (i := 28) rfl)) (hw _ (List.mem_of_getElem? (i := 27) rfl)) (hw _ (List.mem_of_getElem? (i := 29) rfl)) (hw _ (List.mem_of_getElem? (i := 2) rfl)) (by decide) G23 0 rfl (rm5 l Z a0 hw ib T16.heap n0 Sz17 bb len F116 F316 N n (own_g N n (x2.toInt32.toInt8.toInt32) (((x2.toUInt64 >>> ((8 : Int32) &&& 0x3f).toInt64.toUInt64).toInt64).toInt32.toInt8.toInt32) (((x2.toUInt64 >>> ((16 : Int32) &&& 0x3f).toInt64.toUInt64).toInt64).toInt32.toInt8.toInt32) (((x2.toUInt64 >>> ((24 : Int32) &&& 0x3f).toInt64.toUInt64).toInt64).toInt32.toInt8.toInt32)) hN2 hlen (by omega) G20 own_gfit G21) (by decide) (by decide) (by decide) (by decide) (by rw [hml]; rfl) (a := ib) (as := []) (rest := []) pd_6 rfl (by first | exact Nat.le_refl _ | simp [Value.category]) (q := 136) rfl (hb hby at_133) ?_
    rintro _ T22 L22 X22 ⟨r1, rfl, N22q, K22, le22, E22, V22⟩
    have N22 := Fr.app N16 N22q
    show End _ _ _ _ _ _ _ (T22.setTop (mkF m 136 #[.val (.int x0), .val (.int x1), .val (.long x2), .second, .val (.ref ib), .val (.int nd), .val (.ref bb), .val (.int cap), .val (.int len), .val (.int x2.toInt32.toInt8.toInt32), .val (.int ((x2.toUInt64 >>> ((8 : Int32) &&& 0x3f).toInt64.toUInt64).toInt64).toInt32.toInt8.toInt32), .val (.int ((x2.toUInt64 >>> ((16 : Int32) &&& 0x3f).toInt64.toUInt64).toInt64).toInt32.toInt8.toInt32), .val (.int ((x2.toUInt64 >>> ((24 : Int32) &&& 0x3f).toInt64.toUInt64).toInt64).toInt32.toInt8.toInt32), .val (.int mid), .val (.int (len - (1 : Int32))), .unset, .unset, .unset, .unset] [(.ref r1)]))
    have Vr22 : Ary Z T22.heap r1 .byte n (fun t => .int ((own_g N n (x2.toInt32.toInt8.toInt32) (((x2.toUInt64 >>> ((8 : Int32) &&& 0x3f).toInt64.toUInt64).toInt64).toInt32.toInt8.toInt32) (((x2.toUInt64 >>> ((16 : Int32) &&& 0x3f).toInt64.toUInt64).toInt64).toInt32.toInt8.toInt32) (((x2.toUInt64 >>> ((24 : Int32) &&& 0x3f).toInt64.toUInt64).toInt64).toInt32.toInt8.toInt32)) t)) := V22.congr fun t ht => by rw [if_pos (by omega)]
    refine k_astore X22 hx (L' := #[.val (.int x0), .val (.int x1), .val (.long x2), .second, .val (.ref ib), .val (.int nd), .val (.ref bb), .val (.int cap), .val (.int len), .val (.int x2.toInt32.toInt8.toInt32), .val (.int ((x2.toUInt64 >>> ((8 : Int32) &&& 0x3f).toInt64.toUInt64).toInt64).toInt32.toInt8.toInt32), .val (.int ((x2.toUInt64 >>> ((16 : Int32) &&& 0x3f).toInt64.toUInt64).toInt64).toInt32.toInt8.toInt32), .val (.int ((x2.toUInt64 >>> ((24 : Int32) &&& 0x3f).toInt64.toUInt64).toInt64).toInt32.toInt8.toInt32), .val (.int mid), .val (.int (len - (1 : Int32))), .val (.ref r1), .unset, .unset, .unset]) (q := 138) rfl (hb hby at_136) rfl rfl ?_
    refine k_aload X22 hx (q := 140) rfl (hb hby at_138) rfl rfl ?_
    refine k_aload X22 hx (q := 142) rfl (hb hby at_140) rfl rfl ?_
    have ne_bb_r1 : bb ≠ r1 := Nat.ne_of_lt (Nat.lt_of_lt_of_le (G21).lt le22)
    refine k_acmp_y X22 hx (q := 147) (by decide) (by decide) (hb hby at_142) rfl rfl (acmp_ne_t (Ne.symm ne_bb_r1)) ?_
    refine k_aload X22 hx (q := 149) rfl (hb hby at_147) rfl rfl ?_
    have hln32 : n.toInt32 = len := Int32.toInt_inj.mp (by rw [len_toInt (by omega), hlen.int])
    refine k_al X22 hx hZ rfl (z := len) (q := 150) rfl (hb hby at_149) Vr22 hln32 ?_
    refine k_iload X22 hx (q := 152) rfl (hb hby at_150) rfl ?_
    refine k_icmp_eq X22 hx (q1 := 157) (q := 155) (by decide) (by decide) rfl (hb hby at_152) (fun _ => ?_) (fun hc => absurd rfl hc)
    refine k_iload X22 hx (q := 159) rfl (hb hby at_157) rfl ?_
    refine k_if_ne X22 hx (q1 := 181) (q := 162) (by decide) (by decide) rfl (hb hby at_159) (fun hc => absurd ((own_eqi hlen (m := 0) (n := 0) ⟨by decide, by decide⟩).mpr hn0) hc) (fun _ => ?_)
    refine k_aload X22 hx (q := 164) rfl (hb hby at_162) rfl rfl ?_
    have Sz26 : n0 ≤ T22.heap.size := Nat.le_trans Sz17 K22.1
    have G27 := (F116.keep K22 nin0)
    have G28 := (F316.keep K22 nin0)
    have G29 := (G20.keep K22 nin0)
    have G30 := (G21.keep K22)
    have G32 := (G23.keep K22)
    refine k_callV X22 hx hZ (y := (⟨"com/example/keyshelf/keyshelf/berkeleydb/ItemBytes", "toArray", "()[B"⟩ : MethodName)) (z := (⟨"com/example/keyshelf/keyshelf/berkeleydb/ItemBytes", "toArray", "()[B"⟩ : MethodName)) hown (hw _ (List.mem_of_getElem? (i := 25) rfl)) (hw _ (List.mem_of_getElem? (i := 26) rfl)) (notFace_of_selects (args := #[]) (mvT hZ (hw _ (List.mem_of_getElem? (i := 28) rfl)))) (hw _ (List.mem_of_getElem? (i := 28) rfl)) (hw _ (List.mem_of_getElem? (i := 27) rfl)) (hw _ (List.mem_of_getElem? (i := 29) rfl)) (hw _ (List.mem_of_getElem? (i := 2) rfl)) (by decide) G32 0 rfl (rm5 l Z a0 hw ib T22.heap n0 Sz26 bb len G27 G28 N n (own_g N n (x2.toInt32.toInt8.toInt32) (((x2.toUInt64 >>> ((8 : Int32) &&& 0x3f).toInt64.toUInt64).toInt64).toInt32.toInt8.toInt32) (((x2.toUInt64 >>> ((16 : Int32) &&& 0x3f).toInt64.toUInt64).toInt64).toInt32.toInt8.toInt32) (((x2.toUInt64 >>> ((24 : Int32) &&& 0x3f).toInt64.toUInt64).toInt64).toInt32.toInt8.toInt32)) hN2 hlen (by omega) G29 own_gfit G30) (by decide) (by decide) (by decide) (by decide) (by rw [hml]; rfl) (a := ib) (as := []) (rest := []) pd_6 rfl (by first | exact Nat.le_refl _ | simp [Value.category]) (q := 167) rfl (hb hby at_164) ?_
    rintro _ T31 L31 X31 ⟨r2, rfl, N31q, K31, le31, E31, V31⟩
    have N31 := Fr.app N22 N31q
    show End _ _ _ _ _ _ _ (T31.setTop (mkF m 167 #[.val (.int x0), .val (.int x1), .val (.long x2), .second, .val (.ref ib), .val (.int nd), .val (.ref bb), .val (.int cap), .val (.int len), .val (.int x2.toInt32.toInt8.toInt32), .val (.int ((x2.toUInt64 >>> ((8 : Int32) &&& 0x3f).toInt64.toUInt64).toInt64).toInt32.toInt8.toInt32), .val (.int ((x2.toUInt64 >>> ((16 : Int32) &&& 0x3f).toInt64.toUInt64).toInt64).toInt32.toInt8.toInt32), .val (.int ((x2.toUInt64 >>> ((24 : Int32) &&& 0x3f).toInt64.toUInt64).toInt64).toInt32.toInt8.toInt32), .val (.int mid), .val (.int (len - (1 : Int32))), .val (.ref r1), .unset, .unset, .unset] [(.ref r2)]))
    have Vr31 : Ary Z T31.heap r2 .byte n (fun t => .int ((own_g N n (x2.toInt32.toInt8.toInt32) (((x2.toUInt64 >>> ((8 : Int32) &&& 0x3f).toInt64.toUInt64).toInt64).toInt32.toInt8.toInt32) (((x2.toUInt64 >>> ((16 : Int32) &&& 0x3f).toInt64.toUInt64).toInt64).toInt32.toInt8.toInt32) (((x2.toUInt64 >>> ((24 : Int32) &&& 0x3f).toInt64.toUInt64).toInt64).toInt32.toInt8.toInt32)) t)) := V31.congr fun t ht => by rw [if_pos (by omega)]
    refine k_astore X31 hx (L' := #[.val (.int x0), .val (.int x1), .val (.long x2), .second, .val (.ref ib), .val (.int nd), .val (.ref bb), .val (.int cap), .val (.int len), .val (.int x2.toInt32.toInt8.toInt32), .val (.int ((x2.toUInt64 >>> ((8 : Int32) &&& 0x3f).toInt64.toUInt64).toInt64).toInt32.toInt8.toInt32), .val (.int ((x2.toUInt64 >>> ((16 : Int32) &&& 0x3f).toInt64.toUInt64).toInt64).toInt32.toInt8.toInt32), .val (.int ((x2.toUInt64 >>> ((24 : Int32) &&& 0x3f).toInt64.toUInt64).toInt64).toInt32.toInt8.toInt32), .val (.int mid), .val (.int (len - (1 : Int32))), .val (.ref r1), .val (.ref r2), .unset, .unset]) (q := 169) rfl (hb hby at_167) rfl rfl ?_
    refine k_aload X31 hx (q := 171) rfl (hb hby at_169) rfl rfl ?_
    refine k_al X31 hx hZ rfl (z := len) (q := 172) rfl (hb hby at_171) Vr31 hln32 ?_
    refine k_if_ne X31 hx (q1 := 179) (q := 175) (by decide) (by decide) rfl (hb hby at_172) (fun hc => absurd ((own_eqi hlen (m := 0) (n := 0) ⟨by decide, by decide⟩).mpr hn0) hc) (fun _ => ?_)
    refine k_iconst X31 hx (v := (1 : Int32)) rfl (q := 176) rfl (hb hby at_175) ?_
    refine k_goto X31 hx (q := 180) (by decide) (by decide) (hb hby at_176) ?_
    exact k_retN X31 hx (t := .boolean) hlk (by decide) (by decide) hret (by simp) (hb hby at_180) ⟨rfl, N31⟩
  · have hpos : 0 < n := (own_lt (k := 0) (n := n) ⟨by decide, by decide⟩ hlen).mp hc10
    have hlst := own_pred hlen hpos
    refine k_aload X9 hx (q := 92) rfl (hb hby at_90) rfl rfl ?_
    refine k_iconst X9 hx (v := (0 : Int32)) rfl (q := 93) rfl (hb hby at_92) ?_
    refine k_iload X9 hx (q := 95) rfl (hb hby at_93) rfl ?_
    refine k_asB X9 hx hZ rfl 0 (q := 96) rfl (hb hby at_95) V9 ⟨by decide, by decide⟩ (by omega) ?_
    intro T34 h34 X34 e34 W34 V34
    have K34 := Keep.of_wr W34
    have N34 := Fr.snoc X34 N9 gb
    refine k_aload X34 hx (q := 98) rfl (hb hby at_96) rfl rfl ?_
    refine k_iload X34 hx (q := 100) rfl (hb hby at_98) rfl ?_
    refine k_iload X34 hx (q := 102) rfl (hb hby at_100) rfl ?_
    refine k_asB X34 hx hZ e34 (n / 2) (q := 103) rfl (hb hby at_102) V34 hmid (by omega) ?_
    intro T35 h35 X35 e35 W35 V35
    have K35 := Keep.of_wr W35
    have N35 := Fr.snoc X35 N34 gb
    refine k_aload X35 hx (q := 105) rfl (hb hby at_103) rfl rfl ?_
    refine k_iload X35 hx (q := 107) rfl (hb hby at_105) rfl ?_
    refine k_iload X35 hx (q := 109) rfl (hb hby at_107) rfl ?_
    refine k_asB X35 hx hZ e35 (n - 1) (q := 110) rfl (hb hby at_109) V35 hlst (by omega) ?_
    intro T36 h36 X36 e36 W36 V36
    have K36 := Keep.of_wr W36
    have N36 := Fr.snoc X36 N35 gb
    refine k_iload X36 hx (q := 112) rfl (hb hby at_110) rfl ?_
    refine k_iload X36 hx (q := 114) rfl (hb hby at_112) rfl ?_
    refine k_icmp_ge X36 hx (q1 := 124) (q := 117) (by decide) (by decide) rfl (hb hby at_114) (fun hc37 => ?_) (fun hc37 => ?_)
    · have hnN : ¬ n < N := mt (own_lt hlen hcap).mpr hc37
      have Vg : Ary Z h36 bb .byte N (fun t => .int ((own_g N n (x2.toInt32.toInt8.toInt32) (((x2.toUInt64 >>> ((8 : Int32) &&& 0x3f).toInt64.toUInt64).toInt64).toInt32.toInt8.toInt32) (((x2.toUInt64 >>> ((16 : Int32) &&& 0x3f).toInt64.toUInt64).toInt64).toInt32.toInt8.toInt32) (((x2.toUInt64 >>> ((24 : Int32) &&& 0x3f).toInt64.toUInt64).toInt64).toInt32.toInt8.toInt32)) t)) := V36.congr fun t ht => by
        simp only [own_nar]
        unfold own_g
        rw [if_neg (show ¬ (t = n ∧ n < N) from fun c => hnN c.2)]
        by_cases q1 : t = n - 1
        · rw [if_pos q1, if_pos ⟨q1, hpos⟩]
        · rw [if_neg q1, if_neg (show ¬ (t = n - 1 ∧ 0 < n) from fun c => q1 c.1)]
          by_cases q2 : t = n / 2
          · rw [if_pos q2, if_pos ⟨q2, hpos⟩]
          · rw [if_neg q2, if_neg (show ¬ (t = n / 2 ∧ 0 < n) from fun c => q2 c.1)]
            by_cases q3 : t = 0
            · rw [if_pos q3, if_pos ⟨q3, hpos⟩]
            · rw [if_neg q3, if_neg (show ¬ (t = 0 ∧ 0 < n) from fun c => q3 c.1)]
      refine k_aload X36 hx (q := 126) rfl (hb hby at_124) rfl rfl ?_
      refine k_iload X36 hx (q := 128) rfl (hb hby at_126) rfl ?_
      have G38 := ((((G8.keep K9).keep K34).keep K35).keep K36)
      have G39 := (((F19.keep K34 (ninS (Ne.symm nb) nin0)).keep K35 (ninS (Ne.symm nb) nin0)).keep K36 (ninS (Ne.symm nb) nin0))
      have G40 := (((F39.keep K34 (ninS (Ne.symm nb) nin0)).keep K35 (ninS (Ne.symm nb) nin0)).keep K36 (ninS (Ne.symm nb) nin0))
      refine k_callV X36 hx hZ (y := (⟨"com/example/keyshelf/keyshelf/berkeleydb/ItemBytes", "setLength", "(I)V"⟩ : MethodName)) (z := (⟨"com/example/keyshelf/keyshelf/berkeleydb/ItemBytes", "setLength", "(I)V"⟩ : MethodName)) hown (hw _ (List.mem_of_getElem? (i := 18) rfl)) (hw _ (List.mem_of_getElem? (i := 19) rfl)) (notFace_of_selects (args := #[]) (mvT hZ (hw _ (List.mem_of_getElem? (i := 21) rfl)))) (hw _ (List.mem_of_getElem? (i := 21) rfl)) (hw _ (List.mem_of_getElem? (i := 20) rfl)) (hw _ (List.mem_of_getElem? (i := 22) rfl)) (hw _ (List.mem_of_getElem? (i := 2) rfl)) (by decide) G38 0 e36 (rm4 l Z a0 hw ib len h36 n0 ge_ib G38 bb G39 G40) (by decide) (by decide) (by decide) (by decide) (by rw [hml]; rfl) (a := ib) (as := [(.int len)]) (rest := []) pd_5 rfl (by first | exact Nat.le_refl _ | simp [Value.category]) (q := 131) rfl (hb hby at_128) ?_
      rintro _ T41 L41 X41 ⟨rfl, N41q, K41, F341, F141⟩
      have N41 := Fr.app N36 N41q
      show End _ _ _ _ _ _ _ (T41.setTop (mkF m 131 #[.val (.int x0), .val (.int x1), .val (.long x2), .second, .val (.ref ib), .val (.int nd), .val (.ref bb), .val (.int cap), .val (.int len), .val (.int x2.toInt32.toInt8.toInt32), .val (.int ((x2.toUInt64 >>> ((8 : Int32) &&& 0x3f).toInt64.toUInt64).toInt64).toInt32.toInt8.toInt32), .val (.int ((x2.toUInt64 >>> ((16 : Int32) &&& 0x3f).toInt64.toUInt64).toInt64).toInt32.toInt8.toInt32), .val (.int ((x2.toUInt64 >>> ((24 : Int32) &&& 0x3f).toInt64.toUInt64).toInt64).toInt32.toInt8.toInt32), .val (.int mid), .val (.int (len - (1 : Int32))), .unset, .unset, .unset, .unset] []))
      refine k_aload X41 hx (q := 133) rfl (hb hby at_131) rfl rfl ?_
      have Sz46 : n0 ≤ T9.heap.size := Nat.le_trans Sz7 K9.1
      have Sz45 : n0 ≤ h34.size := Nat.le_trans Sz46 K34.1
      have Sz44 : n0 ≤ h35.size := Nat.le_trans Sz45 K35.1
      have Sz43 : n0 ≤ h36.size := Nat.le_trans Sz44 K36.1
      have Sz42 : n0 ≤ T41.heap.size := Nat.le_trans Sz43 K41.1
      have G47 := (Vg.keep K41 (ninS nb nin0))
      have G48 := ((((E19.keep K34).keep K35).keep K36).keep K41)
      have G50 := (G38.keep K41)
      refine k_callV X41 hx hZ (y := (⟨"com/example/keyshelf/keyshelf/berkeleydb/ItemBytes", "toArray", "()[B"⟩ : MethodName)) (z := (⟨"com/example/keyshelf/keyshelf/berkeleydb/ItemBytes", "toArray", "()[B"⟩ : MethodName)) hown (hw _ (List.mem_of_getElem? (i := 25) rfl)) (hw _ (List.mem_of_getElem? (i := 26) rfl)) (notFace_of_selects (args := #[]) (mvT hZ (hw _ (List.mem_of_getElem? (i := 28) rfl)))) (hw _ (List.mem_of_getElem? (i := 28) rfl)) (hw _ (List.mem_of_getElem? (i := 27) rfl)) (hw _ (List.mem_of_getElem? (i := 29) rfl)) (hw _ (List.mem_of_getElem? (i := 2) rfl)) (by decide) G50 0 rfl (rm5 l Z a0 hw ib T41.heap n0 Sz42 bb len F141 F341 N n (own_g N n (x2.toInt32.toInt8.toInt32) (((x2.toUInt64 >>> ((8 : Int32) &&& 0x3f).toInt64.toUInt64).toInt64).toInt32.toInt8.toInt32) (((x2.toUInt64 >>> ((16 : Int32) &&& 0x3f).toInt64.toUInt64).toInt64).toInt32.toInt8.toInt32) (((x2.toUInt64 >>> ((24 : Int32) &&& 0x3f).toInt64.toUInt64).toInt64).toInt32.toInt8.toInt32)) hN2 hlen (by omega) G47 own_gfit G48) (by decide) (by decide) (by decide) (by decide) (by rw [hml]; rfl) (a := ib) (as := []) (rest := []) pd_6 rfl (by first | exact Nat.le_refl _ | simp [Value.category]) (q := 136) rfl (hb hby at_133) ?_
      rintro _ T49 L49 X49 ⟨r1, rfl, N49q, K49, le49, E49, V49⟩
      have N49 := Fr.app N41 N49q
      show End _ _ _ _ _ _ _ (T49.setTop (mkF m 136 #[.val (.int x0), .val (.int x1), .val (.long x2), .second, .val (.ref ib), .val (.int nd), .val (.ref bb), .val (.int cap), .val (.int len), .val (.int x2.toInt32.toInt8.toInt32), .val (.int ((x2.toUInt64 >>> ((8 : Int32) &&& 0x3f).toInt64.toUInt64).toInt64).toInt32.toInt8.toInt32), .val (.int ((x2.toUInt64 >>> ((16 : Int32) &&& 0x3f).toInt64.toUInt64).toInt64).toInt32.toInt8.toInt32), .val (.int ((x2.toUInt64 >>> ((24 : Int32) &&& 0x3f).toInt64.toUInt64).toInt64).toInt32.toInt8.toInt32), .val (.int mid), .val (.int (len - (1 : Int32))), .unset, .unset, .unset, .unset] [(.ref r1)]))
      have Vr49 : Ary Z T49.heap r1 .byte n (fun t => .int ((own_g N n (x2.toInt32.toInt8.toInt32) (((x2.toUInt64 >>> ((8 : Int32) &&& 0x3f).toInt64.toUInt64).toInt64).toInt32.toInt8.toInt32) (((x2.toUInt64 >>> ((16 : Int32) &&& 0x3f).toInt64.toUInt64).toInt64).toInt32.toInt8.toInt32) (((x2.toUInt64 >>> ((24 : Int32) &&& 0x3f).toInt64.toUInt64).toInt64).toInt32.toInt8.toInt32)) t)) := V49.congr fun t ht => by rw [if_pos (by omega)]
      refine k_astore X49 hx (L' := #[.val (.int x0), .val (.int x1), .val (.long x2), .second, .val (.ref ib), .val (.int nd), .val (.ref bb), .val (.int cap), .val (.int len), .val (.int x2.toInt32.toInt8.toInt32), .val (.int ((x2.toUInt64 >>> ((8 : Int32) &&& 0x3f).toInt64.toUInt64).toInt64).toInt32.toInt8.toInt32), .val (.int ((x2.toUInt64 >>> ((16 : Int32) &&& 0x3f).toInt64.toUInt64).toInt64).toInt32.toInt8.toInt32), .val (.int ((x2.toUInt64 >>> ((24 : Int32) &&& 0x3f).toInt64.toUInt64).toInt64).toInt32.toInt8.toInt32), .val (.int mid), .val (.int (len - (1 : Int32))), .val (.ref r1), .unset, .unset, .unset]) (q := 138) rfl (hb hby at_136) rfl rfl ?_
      refine k_aload X49 hx (q := 140) rfl (hb hby at_138) rfl rfl ?_
      refine k_aload X49 hx (q := 142) rfl (hb hby at_140) rfl rfl ?_
      have ne_bb_r1 : bb ≠ r1 := Nat.ne_of_lt (Nat.lt_of_lt_of_le (G48).lt le49)
      refine k_acmp_y X49 hx (q := 147) (by decide) (by decide) (hb hby at_142) rfl rfl (acmp_ne_t (Ne.symm ne_bb_r1)) ?_
      refine k_aload X49 hx (q := 149) rfl (hb hby at_147) rfl rfl ?_
      have hln32 : n.toInt32 = len := Int32.toInt_inj.mp (by rw [len_toInt (by omega), hlen.int])
      refine k_al X49 hx hZ rfl (z := len) (q := 150) rfl (hb hby at_149) Vr49 hln32 ?_
      refine k_iload X49 hx (q := 152) rfl (hb hby at_150) rfl ?_
      refine k_icmp_eq X49 hx (q1 := 157) (q := 155) (by decide) (by decide) rfl (hb hby at_152) (fun _ => ?_) (fun hc => absurd rfl hc)
      refine k_iload X49 hx (q := 159) rfl (hb hby at_157) rfl ?_
      refine k_if_ne X49 hx (q1 := 181) (q := 162) (by decide) (by decide) rfl (hb hby at_159) (fun _ => ?_) (fun hc => absurd hc (mt (own_eqi hlen (m := 0) (n := 0) ⟨by decide, by decide⟩).mp (by omega)))
      obtain ⟨at0, atm, atl, at1⟩ := own_at (v0 := x2.toInt32.toInt8.toInt32) (vm := ((x2.toUInt64 >>> ((8 : Int32) &&& 0x3f).toInt64.toUInt64).toInt64).toInt32.toInt8.toInt32) (vl := ((x2.toUInt64 >>> ((16 : Int32) &&& 0x3f).toInt64.toUInt64).toInt64).toInt32.toInt8.toInt32) (vs := ((x2.toUInt64 >>> ((24 : Int32) &&& 0x3f).toInt64.toUInt64).toInt64).toInt32.toInt8.toInt32) hpos hn
      have hlast := own_pred hlen hpos
      have J53 : ∀ (c0 : Int32), ((own_g N n (x2.toInt32.toInt8.toInt32) (((x2.toUInt64 >>> ((8 : Int32) &&& 0x3f).toInt64.toUInt64).toInt64).toInt32.toInt8.toInt32) (((x2.toUInt64 >>> ((16 : Int32) &&& 0x3f).toInt64.toUInt64).toInt64).toInt32.toInt8.toInt32) (((x2.toUInt64 >>> ((24 : Int32) &&& 0x3f).toInt64.toUInt64).toInt64).toInt32.toInt8.toInt32)) 0 = c0) → End p e below s (fun v h L => v = some (.int 1) ∧ Fr n0 L) room_1.cells room_1.slots (T49.setTop (mkF m 194 #[.val (.int x0), .val (.int x1), .val (.long x2), .second, .val (.ref ib), .val (.int nd), .val (.ref bb), .val (.int cap), .val (.int len), .val (.int x2.toInt32.toInt8.toInt32), .val (.int ((x2.toUInt64 >>> ((8 : Int32) &&& 0x3f).toInt64.toUInt64).toInt64).toInt32.toInt8.toInt32), .val (.int ((x2.toUInt64 >>> ((16 : Int32) &&& 0x3f).toInt64.toUInt64).toInt64).toInt32.toInt8.toInt32), .val (.int ((x2.toUInt64 >>> ((24 : Int32) &&& 0x3f).toInt64.toUInt64).toInt64).toInt32.toInt8.toInt32), .val (.int mid), .val (.int (len - (1 : Int32))), .val (.ref r1), .unset, .unset, .unset] [(.int c0)])) := by
        intro c0 hc0
        have J55 : ∀ (cm : Int32), ((own_g N n (x2.toInt32.toInt8.toInt32) (((x2.toUInt64 >>> ((8 : Int32) &&& 0x3f).toInt64.toUInt64).toInt64).toInt32.toInt8.toInt32) (((x2.toUInt64 >>> ((16 : Int32) &&& 0x3f).toInt64.toUInt64).toInt64).toInt32.toInt8.toInt32) (((x2.toUInt64 >>> ((24 : Int32) &&& 0x3f).toInt64.toUInt64).toInt64).toInt32.toInt8.toInt32)) (n / 2) = cm) → End p e below s (fun v h L => v = some (.int 1) ∧ Fr n0 L) room_1.cells room_1.slots (T49.setTop (mkF m 209 #[.val (.int x0), .val (.int x1), .val (.long x2), .second, .val (.ref ib), .val (.int nd), .val (.ref bb), .val (.int cap), .val (.int len), .val (.int x2.toInt32.toInt8.toInt32), .val (.int ((x2.toUInt64 >>> ((8 : Int32) &&& 0x3f).toInt64.toUInt64).toInt64).toInt32.toInt8.toInt32), .val (.int ((x2.toUInt64 >>> ((16 : Int32) &&& 0x3f).toInt64.toUInt64).toInt64).toInt32.toInt8.toInt32), .val (.int ((x2.toUInt64 >>> ((24 : Int32) &&& 0x3f).toInt64.toUInt64).toInt64).toInt32.toInt8.toInt32), .val (.int mid), .val (.int (len - (1 : Int32))), .val (.ref r1), .val (.int c0), .unset, .unset] [(.int cm)])) := by
          intro cm hcm
          refine k_istore X49 hx (L' := #[.val (.int x0), .val (.int x1), .val (.long x2), .second, .val (.ref ib), .val (.int nd), .val (.ref bb), .val (.int cap), .val (.int len), .val (.int x2.toInt32.toInt8.toInt32), .val (.int ((x2.toUInt64 >>> ((8 : Int32) &&& 0x3f).toInt64.toUInt64).toInt64).toInt32.toInt8.toInt32), .val (.int ((x2.toUInt64 >>> ((16 : Int32) &&& 0x3f).toInt64.toUInt64).toInt64).toInt32.toInt8.toInt32), .val (.int ((x2.toUInt64 >>> ((24 : Int32) &&& 0x3f).toInt64.toUInt64).toInt64).toInt32.toInt8.toInt32), .val (.int mid), .val (.int (len - (1 : Int32))), .val (.ref r1), .val (.int c0), .val (.int cm), .unset]) (q := 211) rfl (hb hby at_209) rfl ?_
          refine k_aload X49 hx (q := 213) rfl (hb hby at_211) rfl rfl ?_
          refine k_iconst X49 hx (v := (0 : Int32)) rfl (q := 214) rfl (hb hby at_213) ?_
          refine k_arB X49 hx hZ rfl (x := (.int ((own_g N n (x2.toInt32.toInt8.toInt32) (((x2.toUInt64 >>> ((8 : Int32) &&& 0x3f).toInt64.toUInt64).toInt64).toInt32.toInt8.toInt32) (((x2.toUInt64 >>> ((16 : Int32) &&& 0x3f).toInt64.toUInt64).toInt64).toInt32.toInt8.toInt32) (((x2.toUInt64 >>> ((24 : Int32) &&& 0x3f).toInt64.toUInt64).toInt64).toInt32.toInt8.toInt32)) 0))) 0 (q := 215) rfl (hb hby at_214) Vr49 ⟨by decide, by decide⟩ hpos rfl ?_
          refine k_iload X49 hx (q := 217) rfl (hb hby at_215) rfl ?_
          refine k_icmp_ne X49 hx (q1 := 240) (q := 220) (by decide) (by decide) rfl (hb hby at_217) (fun hc => absurd hc0 hc) (fun _ => ?_)
          refine k_aload X49 hx (q := 222) rfl (hb hby at_220) rfl rfl ?_
          refine k_iload X49 hx (q := 224) rfl (hb hby at_222) rfl ?_
          refine k_arB X49 hx hZ rfl (x := (.int ((own_g N n (x2.toInt32.toInt8.toInt32) (((x2.toUInt64 >>> ((8 : Int32) &&& 0x3f).toInt64.toUInt64).toInt64).toInt32.toInt8.toInt32) (((x2.toUInt64 >>> ((16 : Int32) &&& 0x3f).toInt64.toUInt64).toInt64).toInt32.toInt8.toInt32) (((x2.toUInt64 >>> ((24 : Int32) &&& 0x3f).toInt64.toUInt64).toInt64).toInt32.toInt8.toInt32)) (n / 2)))) (n / 2) (q := 225) rfl (hb hby at_224) Vr49 hmid (by omega) rfl ?_
          refine k_iload X49 hx (q := 227) rfl (hb hby at_225) rfl ?_
          refine k_icmp_ne X49 hx (q1 := 240) (q := 230) (by decide) (by decide) rfl (hb hby at_227) (fun hc => absurd hcm hc) (fun _ => ?_)
          refine k_aload X49 hx (q := 232) rfl (hb hby at_230) rfl rfl ?_
          refine k_iload X49 hx (q := 234) rfl (hb hby at_232) rfl ?_
          refine k_arB X49 hx hZ rfl (x := (.int ((own_g N n (x2.toInt32.toInt8.toInt32) (((x2.toUInt64 >>> ((8 : Int32) &&& 0x3f).toInt64.toUInt64).toInt64).toInt32.toInt8.toInt32) (((x2.toUInt64 >>> ((16 : Int32) &&& 0x3f).toInt64.toUInt64).toInt64).toInt32.toInt8.toInt32) (((x2.toUInt64 >>> ((24 : Int32) &&& 0x3f).toInt64.toUInt64).toInt64).toInt32.toInt8.toInt32)) (n - 1)))) (n - 1) (q := 235) rfl (hb hby at_234) Vr49 hlast (by omega) rfl ?_
          refine k_iload X49 hx (q := 237) rfl (hb hby at_235) rfl ?_
          refine k_icmp_eq X49 hx (q1 := 242) (q := 240) (by decide) (by decide) rfl (hb hby at_237) (fun _ => ?_) (fun hc => absurd atl hc)
          have J60 : End p e below s (fun v h L => v = some (.int 1) ∧ Fr n0 L) room_1.cells room_1.slots (T49.setTop (mkF m 257 #[.val (.int x0), .val (.int x1), .val (.long x2), .second, .val (.ref ib), .val (.int nd), .val (.ref bb), .val (.int cap), .val (.int len), .val (.int x2.toInt32.toInt8.toInt32), .val (.int ((x2.toUInt64 >>> ((8 : Int32) &&& 0x3f).toInt64.toUInt64).toInt64).toInt32.toInt8.toInt32), .val (.int ((x2.toUInt64 >>> ((16 : Int32) &&& 0x3f).toInt64.toUInt64).toInt64).toInt32.toInt8.toInt32), .val (.int ((x2.toUInt64 >>> ((24 : Int32) &&& 0x3f).toInt64.toUInt64).toInt64).toInt32.toInt8.toInt32), .val (.int mid), .val (.int (len - (1 : Int32))), .val (.ref r1), .val (.int c0), .val (.int cm), .unset] [])) := by
            refine k_aload X49 hx (q := 259) rfl (hb hby at_257) rfl rfl ?_
            refine k_iconst X49 hx (v := (0 : Int32)) rfl (q := 260) rfl (hb hby at_259) ?_
            refine k_aload X49 hx (q := 262) rfl (hb hby at_260) rfl rfl ?_
            refine k_iconst X49 hx (v := (0 : Int32)) rfl (q := 263) rfl (hb hby at_262) ?_
            refine k_arB X49 hx hZ rfl (x := (.int ((own_g N n (x2.toInt32.toInt8.toInt32) (((x2.toUInt64 >>> ((8 : Int32) &&& 0x3f).toInt64.toUInt64).toInt64).toInt32.toInt8.toInt32) (((x2.toUInt64 >>> ((16 : Int32) &&& 0x3f).toInt64.toUInt64).toInt64).toInt32.toInt8.toInt32) (((x2.toUInt64 >>> ((24 : Int32) &&& 0x3f).toInt64.toUInt64).toInt64).toInt32.toInt8.toInt32)) 0))) 0 (q := 264) rfl (hb hby at_263) Vr49 ⟨by decide, by decide⟩ hpos rfl ?_
            refine k_iconst X49 hx (v := (1 : Int32)) rfl (q := 265) rfl (hb hby at_264) ?_
            refine k_iadd X49 hx (q := 266) rfl (hb hby at_265) ?_
            refine k_i2b X49 hx (q := 267) rfl (hb hby at_266) ?_
            have ge_r1 : n0 ≤ r1 := Nat.le_trans Sz42 le49
            refine k_asB X49 hx hZ rfl 0 (q := 268) rfl (hb hby at_267) Vr49 ⟨by decide, by decide⟩ hpos ?_
            intro T63 h63 X63 e63 W63 V63
            have K63 := Keep.of_wr W63
            have N63 := Fr.snoc X63 N49 ge_r1
            refine k_aload X63 hx (q := 270) rfl (hb hby at_268) rfl rfl ?_
            have Sz65 : n0 ≤ T49.heap.size := Nat.le_trans Sz42 K49.1
            have Sz64 : n0 ≤ h63.size := Nat.le_trans Sz65 K63.1
            have ne_ib_r1 : ib ≠ r1 := Nat.ne_of_lt (Nat.lt_of_lt_of_le (G50).lt le49)
            have G66 := ((F141.keep K49 nin0).keep K63 (ninS ne_ib_r1 nin0))
            have G67 := ((F341.keep K49 nin0).keep K63 (ninS ne_ib_r1 nin0))
            have G68 := ((G47.keep K49 nin0).keep K63 (ninS ne_bb_r1 nin0))
            have G69 := ((G48.keep K49).keep K63)
            have G71 := ((G50.keep K49).keep K63)
            refine k_callV X63 hx hZ (y := (⟨"com/example/keyshelf/keyshelf/berkeleydb/ItemBytes", "toArray", "()[B"⟩ : MethodName)) (z := (⟨"com/example/keyshelf/keyshelf/berkeleydb/ItemBytes", "toArray", "()[B"⟩ : MethodName)) hown (hw _ (List.mem_of_getElem? (i := 25) rfl)) (hw _ (List.mem_of_getElem? (i := 26) rfl)) (notFace_of_selects (args := #[]) (mvT hZ (hw _ (List.mem_of_getElem? (i := 28) rfl)))) (hw _ (List.mem_of_getElem? (i := 28) rfl)) (hw _ (List.mem_of_getElem? (i := 27) rfl)) (hw _ (List.mem_of_getElem? (i := 29) rfl)) (hw _ (List.mem_of_getElem? (i := 2) rfl)) (by decide) G71 0 e63 (rm5 l Z a0 hw ib h63 n0 Sz64 bb len G66 G67 N n (own_g N n (x2.toInt32.toInt8.toInt32) (((x2.toUInt64 >>> ((8 : Int32) &&& 0x3f).toInt64.toUInt64).toInt64).toInt32.toInt8.toInt32) (((x2.toUInt64 >>> ((16 : Int32) &&& 0x3f).toInt64.toUInt64).toInt64).toInt32.toInt8.toInt32) (((x2.toUInt64 >>> ((24 : Int32) &&& 0x3f).toInt64.toUInt64).toInt64).toInt32.toInt8.toInt32)) hN2 hlen (by omega) G68 own_gfit G69) (by decide) (by decide) (by decide) (by decide) (by rw [hml]; rfl) (a := ib) (as := []) (rest := []) pd_6 rfl (by first | exact Nat.le_refl _ | simp [Value.category]) (q := 273) rfl (hb hby at_270) ?_
            rintro _ T70 L70 X70 ⟨r2, rfl, N70q, K70, le70, E70, V70⟩
            have N70 := Fr.app N63 N70q
            show End _ _ _ _ _ _ _ (T70.setTop (mkF m 273 #[.val (.int x0), .val (.int x1), .val (.long x2), .second, .val (.ref ib), .val (.int nd), .val (.ref bb), .val (.int cap), .val (.int len), .val (.int x2.toInt32.toInt8.toInt32), .val (.int ((x2.toUInt64 >>> ((8 : Int32) &&& 0x3f).toInt64.toUInt64).toInt64).toInt32.toInt8.toInt32), .val (.int ((x2.toUInt64 >>> ((16 : Int32) &&& 0x3f).toInt64.toUInt64).toInt64).toInt32.toInt8.toInt32), .val (.int ((x2.toUInt64 >>> ((24 : Int32) &&& 0x3f).toInt64.toUInt64).toInt64).toInt32.toInt8.toInt32), .val (.int mid), .val (.int (len - (1 : Int32))), .val (.ref r1), .val (.int c0), .val (.int cm), .unset] [(.ref r2)]))
            have Vr70 : Ary Z T70.heap r2 .byte n (fun t => .int ((own_g N n (x2.toInt32.toInt8.toInt32) (((x2.toUInt64 >>> ((8 : Int32) &&& 0x3f).toInt64.toUInt64).toInt64).toInt32.toInt8.toInt32) (((x2.toUInt64 >>> ((16 : Int32) &&& 0x3f).toInt64.toUInt64).toInt64).toInt32.toInt8.toInt32) (((x2.toUInt64 >>> ((24 : Int32) &&& 0x3f).toInt64.toUInt64).toInt64).toInt32.toInt8.toInt32)) t)) := V70.congr fun t ht => by rw [if_pos (by omega)]
            refine k_astore X70 hx (L' := #[.val (.int x0), .val (.int x1), .val (.long x2), .second, .val (.ref ib), .val (.int nd), .val (.ref bb), .val (.int cap), .val (.int len), .val (.int x2.toInt32.toInt8.toInt32), .val (.int ((x2.toUInt64 >>> ((8 : Int32) &&& 0x3f).toInt64.toUInt64).toInt64).toInt32.toInt8.toInt32), .val (.int ((x2.toUInt64 >>> ((16 : Int32) &&& 0x3f).toInt64.toUInt64).toInt64).toInt32.toInt8.toInt32), .val (.int ((x2.toUInt64 >>> ((24 : Int32) &&& 0x3f).toInt64.toUInt64).toInt64).toInt32.toInt8.toInt32), .val (.int mid), .val (.int (len - (1 : Int32))), .val (.ref r1), .val (.int c0), .val (.int cm), .val (.ref r2)]) (q := 275) rfl (hb hby at_273) rfl rfl ?_
            refine k_aload X70 hx (q := 277) rfl (hb hby at_275) rfl rfl ?_
            refine k_aload X70 hx (q := 279) rfl (hb hby at_277) rfl rfl ?_
            have ne_r1_r2 : r1 ≠ r2 := Nat.ne_of_lt (Nat.lt_of_lt_of_le (V63).lt le70)
            refine k_acmp_n X70 hx (q := 282) rfl (hb hby at_279) rfl rfl (acmp_eq_f (Ne.symm ne_r1_r2)) ?_
            refine k_aload X70 hx (q := 284) rfl (hb hby at_282) rfl rfl ?_
            refine k_aload X70 hx (q := 286) rfl (hb hby at_284) rfl rfl ?_
            have ne_bb_r2 : bb ≠ r2 := Nat.ne_of_lt (Nat.lt_of_lt_of_le (G69).lt le70)
            refine k_acmp_n X70 hx (q := 289) rfl (hb hby at_286) rfl rfl (acmp_eq_f (Ne.symm ne_bb_r2)) ?_
            refine k_aload X70 hx (q := 291) rfl (hb hby at_289) rfl rfl ?_
            refine k_al X70 hx hZ rfl (z := len) (q := 292) rfl (hb hby at_291) Vr70 hln32 ?_
            refine k_iload X70 hx (q := 294) rfl (hb hby at_292) rfl ?_
            refine k_icmp_ne X70 hx (q1 := 340) (q := 297) (by decide) (by decide) rfl (hb hby at_294) (fun hc => absurd rfl hc) (fun _ => ?_)
            refine k_aload X70 hx (q := 299) rfl (hb hby at_297) rfl rfl ?_
            refine k_iconst X70 hx (v := (0 : Int32)) rfl (q := 300) rfl (hb hby at_299) ?_
            refine k_arB X70 hx hZ rfl (x := (.int ((own_g N n (x2.toInt32.toInt8.toInt32) (((x2.toUInt64 >>> ((8 : Int32) &&& 0x3f).toInt64.toUInt64).toInt64).toInt32.toInt8.toInt32) (((x2.toUInt64 >>> ((16 : Int32) &&& 0x3f).toInt64.toUInt64).toInt64).toInt32.toInt8.toInt32) (((x2.toUInt64 >>> ((24 : Int32) &&& 0x3f).toInt64.toUInt64).toInt64).toInt32.toInt8.toInt32)) 0))) 0 (q := 301) rfl (hb hby at_300) Vr70 ⟨by decide, by decide⟩ hpos rfl ?_
            refine k_iload X70 hx (q := 303) rfl (hb hby at_301) rfl ?_
            refine k_icmp_ne X70 hx (q1 := 340) (q := 306) (by decide) (by decide) rfl (hb hby at_303) (fun hc => absurd hc0 hc) (fun _ => ?_)
            refine k_aload X70 hx (q := 308) rfl (hb hby at_306) rfl rfl ?_
            refine k_iconst X70 hx (v := (0 : Int32)) rfl (q := 309) rfl (hb hby at_308) ?_
            have G74 := (G68.keep K70 nin0)
            refine k_arB X70 hx hZ rfl (x := (.int ((own_g N n (x2.toInt32.toInt8.toInt32) (((x2.toUInt64 >>> ((8 : Int32) &&& 0x3f).toInt64.toUInt64).toInt64).toInt32.toInt8.toInt32) (((x2.toUInt64 >>> ((16 : Int32) &&& 0x3f).toInt64.toUInt64).toInt64).toInt32.toInt8.toInt32) (((x2.toUInt64 >>> ((24 : Int32) &&& 0x3f).toInt64.toUInt64).toInt64).toInt32.toInt8.toInt32)) 0))) 0 (q := 310) rfl (hb hby at_309) G74 ⟨by decide, by decide⟩ (by omega) rfl ?_
            refine k_iload X70 hx (q := 312) rfl (hb hby at_310) rfl ?_
            refine k_icmp_ne X70 hx (q1 := 340) (q := 315) (by decide) (by decide) rfl (hb hby at_312) (fun hc => absurd hc0 hc) (fun _ => ?_)
            refine k_aload X70 hx (q := 317) rfl (hb hby at_315) rfl rfl ?_
            refine k_iload X70 hx (q := 319) rfl (hb hby at_317) rfl ?_
            refine k_arB X70 hx hZ rfl (x := (.int ((own_g N n (x2.toInt32.toInt8.toInt32) (((x2.toUInt64 >>> ((8 : Int32) &&& 0x3f).toInt64.toUInt64).toInt64).toInt32.toInt8.toInt32) (((x2.toUInt64 >>> ((16 : Int32) &&& 0x3f).toInt64.toUInt64).toInt64).toInt32.toInt8.toInt32) (((x2.toUInt64 >>> ((24 : Int32) &&& 0x3f).toInt64.toUInt64).toInt64).toInt32.toInt8.toInt32)) (n - 1)))) (n - 1) (q := 320) rfl (hb hby at_319) Vr70 hlast (by omega) rfl ?_
            have J76 : ∀ (cl : Int32), ((own_g N n (x2.toInt32.toInt8.toInt32) (((x2.toUInt64 >>> ((8 : Int32) &&& 0x3f).toInt64.toUInt64).toInt64).toInt32.toInt8.toInt32) (((x2.toUInt64 >>> ((16 : Int32) &&& 0x3f).toInt64.toUInt64).toInt64).toInt32.toInt8.toInt32) (((x2.toUInt64 >>> ((24 : Int32) &&& 0x3f).toInt64.toUInt64).toInt64).toInt32.toInt8.toInt32)) (n - 1) = cl) → End p e below s (fun v h L => v = some (.int 1) ∧ Fr n0 L) room_1.cells room_1.slots (T70.setTop (mkF m 333 #[.val (.int x0), .val (.int x1), .val (.long x2), .second, .val (.ref ib), .val (.int nd), .val (.ref bb), .val (.int cap), .val (.int len), .val (.int x2.toInt32.toInt8.toInt32), .val (.int ((x2.toUInt64 >>> ((8 : Int32) &&& 0x3f).toInt64.toUInt64).toInt64).toInt32.toInt8.toInt32), .val (.int ((x2.toUInt64 >>> ((16 : Int32) &&& 0x3f).toInt64.toUInt64).toInt64).toInt32.toInt8.toInt32), .val (.int ((x2.toUInt64 >>> ((24 : Int32) &&& 0x3f).toInt64.toUInt64).toInt64).toInt32.toInt8.toInt32), .val (.int mid), .val (.int (len - (1 : Int32))), .val (.ref r1), .val (.int c0), .val (.int cm), .val (.ref r2)] [(.int cl), (.int ((own_g N n (x2.toInt32.toInt8.toInt32) (((x2.toUInt64 >>> ((8 : Int32) &&& 0x3f).toInt64.toUInt64).toInt64).toInt32.toInt8.toInt32) (((x2.toUInt64 >>> ((16 : Int32) &&& 0x3f).toInt64.toUInt64).toInt64).toInt32.toInt8.toInt32) (((x2.toUInt64 >>> ((24 : Int32) &&& 0x3f).toInt64.toUInt64).toInt64).toInt32.toInt8.toInt32)) (n - 1)))])) := by
              intro cl hcl
              refine k_icmp_ne X70 hx (q1 := 340) (q := 336) (by decide) (by decide) rfl (hb hby at_333) (fun hc => absurd hcl hc) (fun _ => ?_)
              refine k_iconst X70 hx (v := (1 : Int32)) rfl (q := 337) rfl (hb hby at_336) ?_
              refine k_goto X70 hx (q := 341) (by decide) (by decide) (hb hby at_337) ?_
              exact k_retN X70 hx (t := .boolean) hlk (by decide) (by decide) hret (by simp) (hb hby at_341) ⟨rfl, N70⟩
            refine k_iload X70 hx (q := 322) rfl (hb hby at_320) rfl ?_
            refine k_iconst X70 hx (v := (1 : Int32)) rfl (q := 323) rfl (hb hby at_322) ?_
            refine k_icmp_ne X70 hx (q1 := 331) (q := 326) (by decide) (by decide) rfl (hb hby at_323) (fun hc77 => ?_) (fun hc77 => ?_)
            · refine k_iload X70 hx (q := 333) rfl (hb hby at_331) rfl ?_
              exact J76 _ atl
            · refine k_iload X70 hx (q := 328) rfl (hb hby at_326) rfl ?_
              refine k_goto X70 hx (q := 333) (by decide) (by decide) (hb hby at_328) ?_
              exact J76 _ (by
                have q := (own_eqi hlen (m := 1) (n := 1) ⟨by decide, by decide⟩).mp hc77
                subst q; exact hc0)
          refine k_iload X49 hx (q := 244) rfl (hb hby at_242) rfl ?_
          refine k_iconst X49 hx (v := (4 : Int32)) rfl (q := 245) rfl (hb hby at_244) ?_
          refine k_icmp_lt X49 hx (q1 := 257) (q := 248) (by decide) (by decide) rfl (hb hby at_245) (fun hc61 => ?_) (fun hc61 => ?_)
          · exact J60
          · have hn4 : 4 ≤ n := by have := mt (own_lt (k := n) (n := 4) hlen ⟨by decide, by decide⟩).mpr hc61; omega
            refine k_aload X49 hx (q := 250) rfl (hb hby at_248) rfl rfl ?_
            refine k_iconst X49 hx (v := (1 : Int32)) rfl (q := 251) rfl (hb hby at_250) ?_
            refine k_arB X49 hx hZ rfl (x := (.int ((own_g N n (x2.toInt32.toInt8.toInt32) (((x2.toUInt64 >>> ((8 : Int32) &&& 0x3f).toInt64.toUInt64).toInt64).toInt32.toInt8.toInt32) (((x2.toUInt64 >>> ((16 : Int32) &&& 0x3f).toInt64.toUInt64).toInt64).toInt32.toInt8.toInt32) (((x2.toUInt64 >>> ((24 : Int32) &&& 0x3f).toInt64.toUInt64).toInt64).toInt32.toInt8.toInt32)) 1))) 1 (q := 252) rfl (hb hby at_251) Vr49 ⟨by decide, by decide⟩ (by omega) rfl ?_
            refine k_if_eq X49 hx (q1 := 257) (q := 255) (by decide) (by decide) rfl (hb hby at_252) (fun _ => ?_) (fun hc => absurd (at1 hn4) hc)
            exact J60
        refine k_istore X49 hx (L' := #[.val (.int x0), .val (.int x1), .val (.long x2), .second, .val (.ref ib), .val (.int nd), .val (.ref bb), .val (.int cap), .val (.int len), .val (.int x2.toInt32.toInt8.toInt32), .val (.int ((x2.toUInt64 >>> ((8 : Int32) &&& 0x3f).toInt64.toUInt64).toInt64).toInt32.toInt8.toInt32), .val (.int ((x2.toUInt64 >>> ((16 : Int32) &&& 0x3f).toInt64.toUInt64).toInt64).toInt32.toInt8.toInt32), .val (.int ((x2.toUInt64 >>> ((24 : Int32) &&& 0x3f).toInt64.toUInt64).toInt64).toInt32.toInt8.toInt32), .val (.int mid), .val (.int (len - (1 : Int32))), .val (.ref r1), .val (.int c0), .unset, .unset]) (q := 196) rfl (hb hby at_194) rfl ?_
        refine k_iload X49 hx (q := 198) rfl (hb hby at_196) rfl ?_
        refine k_iconst X49 hx (v := (2 : Int32)) rfl (q := 199) rfl (hb hby at_198) ?_
        refine k_icmp_gt X49 hx (q1 := 207) (q := 202) (by decide) (by decide) rfl (hb hby at_199) (fun hc56 => ?_) (fun hc56 => ?_)
        · refine k_iload X49 hx (q := 209) rfl (hb hby at_207) rfl ?_
          exact J55 _ (by rw [atm, if_pos ((own_lt (k := 2) (n := n) ⟨by decide, by decide⟩ hlen).mp hc56)])
        · refine k_iload X49 hx (q := 204) rfl (hb hby at_202) rfl ?_
          refine k_goto X49 hx (q := 209) (by decide) (by decide) (hb hby at_204) ?_
          exact J55 _ (by rw [atm, if_neg (mt (own_lt (k := 2) (n := n) ⟨by decide, by decide⟩ hlen).mpr hc56)])
      refine k_iload X49 hx (q := 183) rfl (hb hby at_181) rfl ?_
      refine k_iconst X49 hx (v := (1 : Int32)) rfl (q := 184) rfl (hb hby at_183) ?_
      refine k_icmp_ne X49 hx (q1 := 192) (q := 187) (by decide) (by decide) rfl (hb hby at_184) (fun hc54 => ?_) (fun hc54 => ?_)
      · refine k_iload X49 hx (q := 194) rfl (hb hby at_192) rfl ?_
        exact J53 _ (by rw [at0, if_neg (mt (own_eqi hlen (m := 1) (n := 1) ⟨by decide, by decide⟩).mpr hc54)])
      · refine k_iload X49 hx (q := 189) rfl (hb hby at_187) rfl ?_
        refine k_goto X49 hx (q := 194) (by decide) (by decide) (hb hby at_189) ?_
        exact J53 _ (by rw [at0, if_pos ((own_eqi hlen (m := 1) (n := 1) ⟨by decide, by decide⟩).mp hc54)])
    · have hnN : n < N := (own_lt hlen hcap).mp hc37
      refine k_aload X36 hx (q := 119) rfl (hb hby at_117) rfl rfl ?_
      refine k_iload X36 hx (q := 121) rfl (hb hby at_119) rfl ?_
      refine k_iload X36 hx (q := 123) rfl (hb hby at_121) rfl ?_
      refine k_asB X36 hx hZ e36 n (q := 124) rfl (hb hby at_123) V36 hlen hnN ?_
      intro T79 h79 X79 e79 W79 V79
      have K79 := Keep.of_wr W79
      have N79 := Fr.snoc X79 N36 gb
      have Vg : Ary Z h79 bb .byte N (fun t => .int ((own_g N n (x2.toInt32.toInt8.toInt32) (((x2.toUInt64 >>> ((8 : Int32) &&& 0x3f).toInt64.toUInt64).toInt64).toInt32.toInt8.toInt32) (((x2.toUInt64 >>> ((16 : Int32) &&& 0x3f).toInt64.toUInt64).toInt64).toInt32.toInt8.toInt32) (((x2.toUInt64 >>> ((24 : Int32) &&& 0x3f).toInt64.toUInt64).toInt64).toInt32.toInt8.toInt32)) t)) := V79.congr fun t ht => by
        simp only [own_nar]
        unfold own_g
        by_cases q0 : t = n
        · rw [if_pos q0, if_pos ⟨q0, hnN⟩]
        · rw [if_neg q0, if_neg (show ¬ (t = n ∧ n < N) from fun c => q0 c.1)]
          by_cases q1 : t = n - 1
          · rw [if_pos q1, if_pos ⟨q1, hpos⟩]
          · rw [if_neg q1, if_neg (show ¬ (t = n - 1 ∧ 0 < n) from fun c => q1 c.1)]
            by_cases q2 : t = n / 2
            · rw [if_pos q2, if_pos ⟨q2, hpos⟩]
            · rw [if_neg q2, if_neg (show ¬ (t = n / 2 ∧ 0 < n) from fun c => q2 c.1)]
              by_cases q3 : t = 0
              · rw [if_pos q3, if_pos ⟨q3, hpos⟩]
              · rw [if_neg q3, if_neg (show ¬ (t = 0 ∧ 0 < n) from fun c => q3 c.1)]
      refine k_aload X79 hx (q := 126) rfl (hb hby at_124) rfl rfl ?_
      refine k_iload X79 hx (q := 128) rfl (hb hby at_126) rfl ?_
      have G80 := (((((G8.keep K9).keep K34).keep K35).keep K36).keep K79)
      have G81 := ((((F19.keep K34 (ninS (Ne.symm nb) nin0)).keep K35 (ninS (Ne.symm nb) nin0)).keep K36 (ninS (Ne.symm nb) nin0)).keep K79 (ninS (Ne.symm nb) nin0))
      have G82 := ((((F39.keep K34 (ninS (Ne.symm nb) nin0)).keep K35 (ninS (Ne.symm nb) nin0)).keep K36 (ninS (Ne.symm nb) nin0)).keep K79 (ninS (Ne.symm nb) nin0))
      refine k_callV X79 hx hZ (y := (⟨"com/example/keyshelf/keyshelf/berkeleydb/ItemBytes", "setLength", "(I)V"⟩ : MethodName)) (z := (⟨"com/example/keyshelf/keyshelf/berkeleydb/ItemBytes", "setLength", "(I)V"⟩ : MethodName)) hown (hw _ (List.mem_of_getElem? (i := 18) rfl)) (hw _ (List.mem_of_getElem? (i := 19) rfl)) (notFace_of_selects (args := #[]) (mvT hZ (hw _ (List.mem_of_getElem? (i := 21) rfl)))) (hw _ (List.mem_of_getElem? (i := 21) rfl)) (hw _ (List.mem_of_getElem? (i := 20) rfl)) (hw _ (List.mem_of_getElem? (i := 22) rfl)) (hw _ (List.mem_of_getElem? (i := 2) rfl)) (by decide) G80 0 e79 (rm4 l Z a0 hw ib len h79 n0 ge_ib G80 bb G81 G82) (by decide) (by decide) (by decide) (by decide) (by rw [hml]; rfl) (a := ib) (as := [(.int len)]) (rest := []) pd_5 rfl (by first | exact Nat.le_refl _ | simp [Value.category]) (q := 131) rfl (hb hby at_128) ?_
      rintro _ T83 L83 X83 ⟨rfl, N83q, K83, F383, F183⟩
      have N83 := Fr.app N79 N83q
      show End _ _ _ _ _ _ _ (T83.setTop (mkF m 131 #[.val (.int x0), .val (.int x1), .val (.long x2), .second, .val (.ref ib), .val (.int nd), .val (.ref bb), .val (.int cap), .val (.int len), .val (.int x2.toInt32.toInt8.toInt32), .val (.int ((x2.toUInt64 >>> ((8 : Int32) &&& 0x3f).toInt64.toUInt64).toInt64).toInt32.toInt8.toInt32), .val (.int ((x2.toUInt64 >>> ((16 : Int32) &&& 0x3f).toInt64.toUInt64).toInt64).toInt32.toInt8.toInt32), .val (.int ((x2.toUInt64 >>> ((24 : Int32) &&& 0x3f).toInt64.toUInt64).toInt64).toInt32.toInt8.toInt32), .val (.int mid), .val (.int (len - (1 : Int32))), .unset, .unset, .unset, .unset] []))
      refine k_aload X83 hx (q := 133) rfl (hb hby at_131) rfl rfl ?_
      have Sz89 : n0 ≤ T9.heap.size := Nat.le_trans Sz7 K9.1
      have Sz88 : n0 ≤ h34.size := Nat.le_trans Sz89 K34.1
      have Sz87 : n0 ≤ h35.size := Nat.le_trans Sz88 K35.1
      have Sz86 : n0 ≤ h36.size := Nat.le_trans Sz87 K36.1
      have Sz85 : n0 ≤ h79.size := Nat.le_trans Sz86 K79.1
      have Sz84 : n0 ≤ T83.heap.size := Nat.le_trans Sz85 K83.1
      have G90 := (Vg.keep K83 (ninS nb nin0))
      have G91 := (((((E19.keep K34).keep K35).keep K36).keep K79).keep K83)
      have G93 := (G80.keep K83)
      refine k_callV X83 hx hZ (y := (⟨"com/example/keyshelf/keyshelf/berkeleydb/ItemBytes", "toArray", "()[B"⟩ : MethodName)) (z := (⟨"com/example/keyshelf/keyshelf/berkeleydb/ItemBytes", "toArray", "()[B"⟩ : MethodName)) hown (hw _ (List.mem_of_getElem? (i := 25) rfl)) (hw _ (List.mem_of_getElem? (i := 26) rfl)) (notFace_of_selects (args := #[]) (mvT hZ (hw _ (List.mem_of_getElem? (i := 28) rfl)))) (hw _ (List.mem_of_getElem? (i := 28) rfl)) (hw _ (List.mem_of_getElem? (i := 27) rfl)) (hw _ (List.mem_of_getElem? (i := 29) rfl)) (hw _ (List.mem_of_getElem? (i := 2) rfl)) (by decide) G93 0 rfl (rm5 l Z a0 hw ib T83.heap n0 Sz84 bb len F183 F383 N n (own_g N n (x2.toInt32.toInt8.toInt32) (((x2.toUInt64 >>> ((8 : Int32) &&& 0x3f).toInt64.toUInt64).toInt64).toInt32.toInt8.toInt32) (((x2.toUInt64 >>> ((16 : Int32) &&& 0x3f).toInt64.toUInt64).toInt64).toInt32.toInt8.toInt32) (((x2.toUInt64 >>> ((24 : Int32) &&& 0x3f).toInt64.toUInt64).toInt64).toInt32.toInt8.toInt32)) hN2 hlen (by omega) G90 own_gfit G91) (by decide) (by decide) (by decide) (by decide) (by rw [hml]; rfl) (a := ib) (as := []) (rest := []) pd_6 rfl (by first | exact Nat.le_refl _ | simp [Value.category]) (q := 136) rfl (hb hby at_133) ?_
      rintro _ T92 L92 X92 ⟨r1, rfl, N92q, K92, le92, E92, V92⟩
      have N92 := Fr.app N83 N92q
      show End _ _ _ _ _ _ _ (T92.setTop (mkF m 136 #[.val (.int x0), .val (.int x1), .val (.long x2), .second, .val (.ref ib), .val (.int nd), .val (.ref bb), .val (.int cap), .val (.int len), .val (.int x2.toInt32.toInt8.toInt32), .val (.int ((x2.toUInt64 >>> ((8 : Int32) &&& 0x3f).toInt64.toUInt64).toInt64).toInt32.toInt8.toInt32), .val (.int ((x2.toUInt64 >>> ((16 : Int32) &&& 0x3f).toInt64.toUInt64).toInt64).toInt32.toInt8.toInt32), .val (.int ((x2.toUInt64 >>> ((24 : Int32) &&& 0x3f).toInt64.toUInt64).toInt64).toInt32.toInt8.toInt32), .val (.int mid), .val (.int (len - (1 : Int32))), .unset, .unset, .unset, .unset] [(.ref r1)]))
      have Vr92 : Ary Z T92.heap r1 .byte n (fun t => .int ((own_g N n (x2.toInt32.toInt8.toInt32) (((x2.toUInt64 >>> ((8 : Int32) &&& 0x3f).toInt64.toUInt64).toInt64).toInt32.toInt8.toInt32) (((x2.toUInt64 >>> ((16 : Int32) &&& 0x3f).toInt64.toUInt64).toInt64).toInt32.toInt8.toInt32) (((x2.toUInt64 >>> ((24 : Int32) &&& 0x3f).toInt64.toUInt64).toInt64).toInt32.toInt8.toInt32)) t)) := V92.congr fun t ht => by rw [if_pos (by omega)]
      refine k_astore X92 hx (L' := #[.val (.int x0), .val (.int x1), .val (.long x2), .second, .val (.ref ib), .val (.int nd), .val (.ref bb), .val (.int cap), .val (.int len), .val (.int x2.toInt32.toInt8.toInt32), .val (.int ((x2.toUInt64 >>> ((8 : Int32) &&& 0x3f).toInt64.toUInt64).toInt64).toInt32.toInt8.toInt32), .val (.int ((x2.toUInt64 >>> ((16 : Int32) &&& 0x3f).toInt64.toUInt64).toInt64).toInt32.toInt8.toInt32), .val (.int ((x2.toUInt64 >>> ((24 : Int32) &&& 0x3f).toInt64.toUInt64).toInt64).toInt32.toInt8.toInt32), .val (.int mid), .val (.int (len - (1 : Int32))), .val (.ref r1), .unset, .unset, .unset]) (q := 138) rfl (hb hby at_136) rfl rfl ?_
      refine k_aload X92 hx (q := 140) rfl (hb hby at_138) rfl rfl ?_
      refine k_aload X92 hx (q := 142) rfl (hb hby at_140) rfl rfl ?_
      have ne_bb_r1 : bb ≠ r1 := Nat.ne_of_lt (Nat.lt_of_lt_of_le (G91).lt le92)
      refine k_acmp_y X92 hx (q := 147) (by decide) (by decide) (hb hby at_142) rfl rfl (acmp_ne_t (Ne.symm ne_bb_r1)) ?_
      refine k_aload X92 hx (q := 149) rfl (hb hby at_147) rfl rfl ?_
      have hln32 : n.toInt32 = len := Int32.toInt_inj.mp (by rw [len_toInt (by omega), hlen.int])
      refine k_al X92 hx hZ rfl (z := len) (q := 150) rfl (hb hby at_149) Vr92 hln32 ?_
      refine k_iload X92 hx (q := 152) rfl (hb hby at_150) rfl ?_
      refine k_icmp_eq X92 hx (q1 := 157) (q := 155) (by decide) (by decide) rfl (hb hby at_152) (fun _ => ?_) (fun hc => absurd rfl hc)
      refine k_iload X92 hx (q := 159) rfl (hb hby at_157) rfl ?_
      refine k_if_ne X92 hx (q1 := 181) (q := 162) (by decide) (by decide) rfl (hb hby at_159) (fun _ => ?_) (fun hc => absurd hc (mt (own_eqi hlen (m := 0) (n := 0) ⟨by decide, by decide⟩).mp (by omega)))
      obtain ⟨at0, atm, atl, at1⟩ := own_at (v0 := x2.toInt32.toInt8.toInt32) (vm := ((x2.toUInt64 >>> ((8 : Int32) &&& 0x3f).toInt64.toUInt64).toInt64).toInt32.toInt8.toInt32) (vl := ((x2.toUInt64 >>> ((16 : Int32) &&& 0x3f).toInt64.toUInt64).toInt64).toInt32.toInt8.toInt32) (vs := ((x2.toUInt64 >>> ((24 : Int32) &&& 0x3f).toInt64.toUInt64).toInt64).toInt32.toInt8.toInt32) hpos hn
      have hlast := own_pred hlen hpos
      have J96 : ∀ (c0 : Int32), ((own_g N n (x2.toInt32.toInt8.toInt32) (((x2.toUInt64 >>> ((8 : Int32) &&& 0x3f).toInt64.toUInt64).toInt64).toInt32.toInt8.toInt32) (((x2.toUInt64 >>> ((16 : Int32) &&& 0x3f).toInt64.toUInt64).toInt64).toInt32.toInt8.toInt32) (((x2.toUInt64 >>> ((24 : Int32) &&& 0x3f).toInt64.toUInt64).toInt64).toInt32.toInt8.toInt32)) 0 = c0) → End p e below s (fun v h L => v = some (.int 1) ∧ Fr n0 L) room_1.cells room_1.slots (T92.setTop (mkF m 194 #[.val (.int x0), .val (.int x1), .val (.long x2), .second, .val (.ref ib), .val (.int nd), .val (.ref bb), .val (.int cap), .val (.int len), .val (.int x2.toInt32.toInt8.toInt32), .val (.int ((x2.toUInt64 >>> ((8 : Int32) &&& 0x3f).toInt64.toUInt64).toInt64).toInt32.toInt8.toInt32), .val (.int ((x2.toUInt64 >>> ((16 : Int32) &&& 0x3f).toInt64.toUInt64).toInt64).toInt32.toInt8.toInt32), .val (.int ((x2.toUInt64 >>> ((24 : Int32) &&& 0x3f).toInt64.toUInt64).toInt64).toInt32.toInt8.toInt32), .val (.int mid), .val (.int (len - (1 : Int32))), .val (.ref r1), .unset, .unset, .unset] [(.int c0)])) := by
        intro c0 hc0
        have J98 : ∀ (cm : Int32), ((own_g N n (x2.toInt32.toInt8.toInt32) (((x2.toUInt64 >>> ((8 : Int32) &&& 0x3f).toInt64.toUInt64).toInt64).toInt32.toInt8.toInt32) (((x2.toUInt64 >>> ((16 : Int32) &&& 0x3f).toInt64.toUInt64).toInt64).toInt32.toInt8.toInt32) (((x2.toUInt64 >>> ((24 : Int32) &&& 0x3f).toInt64.toUInt64).toInt64).toInt32.toInt8.toInt32)) (n / 2) = cm) → End p e below s (fun v h L => v = some (.int 1) ∧ Fr n0 L) room_1.cells room_1.slots (T92.setTop (mkF m 209 #[.val (.int x0), .val (.int x1), .val (.long x2), .second, .val (.ref ib), .val (.int nd), .val (.ref bb), .val (.int cap), .val (.int len), .val (.int x2.toInt32.toInt8.toInt32), .val (.int ((x2.toUInt64 >>> ((8 : Int32) &&& 0x3f).toInt64.toUInt64).toInt64).toInt32.toInt8.toInt32), .val (.int ((x2.toUInt64 >>> ((16 : Int32) &&& 0x3f).toInt64.toUInt64).toInt64).toInt32.toInt8.toInt32), .val (.int ((x2.toUInt64 >>> ((24 : Int32) &&& 0x3f).toInt64.toUInt64).toInt64).toInt32.toInt8.toInt32), .val (.int mid), .val (.int (len - (1 : Int32))), .val (.ref r1), .val (.int c0), .unset, .unset] [(.int cm)])) := by
          intro cm hcm
          refine k_istore X92 hx (L' := #[.val (.int x0), .val (.int x1), .val (.long x2), .second, .val (.ref ib), .val (.int nd), .val (.ref bb), .val (.int cap), .val (.int len), .val (.int x2.toInt32.toInt8.toInt32), .val (.int ((x2.toUInt64 >>> ((8 : Int32) &&& 0x3f).toInt64.toUInt64).toInt64).toInt32.toInt8.toInt32), .val (.int ((x2.toUInt64 >>> ((16 : Int32) &&& 0x3f).toInt64.toUInt64).toInt64).toInt32.toInt8.toInt32), .val (.int ((x2.toUInt64 >>> ((24 : Int32) &&& 0x3f).toInt64.toUInt64).toInt64).toInt32.toInt8.toInt32), .val (.int mid), .val (.int (len - (1 : Int32))), .val (.ref r1), .val (.int c0), .val (.int cm), .unset]) (q := 211) rfl (hb hby at_209) rfl ?_
          refine k_aload X92 hx (q := 213) rfl (hb hby at_211) rfl rfl ?_
          refine k_iconst X92 hx (v := (0 : Int32)) rfl (q := 214) rfl (hb hby at_213) ?_
          refine k_arB X92 hx hZ rfl (x := (.int ((own_g N n (x2.toInt32.toInt8.toInt32) (((x2.toUInt64 >>> ((8 : Int32) &&& 0x3f).toInt64.toUInt64).toInt64).toInt32.toInt8.toInt32) (((x2.toUInt64 >>> ((16 : Int32) &&& 0x3f).toInt64.toUInt64).toInt64).toInt32.toInt8.toInt32) (((x2.toUInt64 >>> ((24 : Int32) &&& 0x3f).toInt64.toUInt64).toInt64).toInt32.toInt8.toInt32)) 0))) 0 (q := 215) rfl (hb hby at_214) Vr92 ⟨by decide, by decide⟩ hpos rfl ?_
          refine k_iload X92 hx (q := 217) rfl (hb hby at_215) rfl ?_
          refine k_icmp_ne X92 hx (q1 := 240) (q := 220) (by decide) (by decide) rfl (hb hby at_217) (fun hc => absurd hc0 hc) (fun _ => ?_)
          refine k_aload X92 hx (q := 222) rfl (hb hby at_220) rfl rfl ?_
          refine k_iload X92 hx (q := 224) rfl (hb hby at_222) rfl ?_
          refine k_arB X92 hx hZ rfl (x := (.int ((own_g N n (x2.toInt32.toInt8.toInt32) (((x2.toUInt64 >>> ((8 : Int32) &&& 0x3f).toInt64.toUInt64).toInt64).toInt32.toInt8.toInt32) (((x2.toUInt64 >>> ((16 : Int32) &&& 0x3f).toInt64.toUInt64).toInt64).toInt32.toInt8.toInt32) (((x2.toUInt64 >>> ((24 : Int32) &&& 0x3f).toInt64.toUInt64).toInt64).toInt32.toInt8.toInt32)) (n / 2)))) (n / 2) (q := 225) rfl (hb hby at_224) Vr92 hmid (by omega) rfl ?_
          refine k_iload X92 hx (q := 227) rfl (hb hby at_225) rfl ?_
          refine k_icmp_ne X92 hx (q1 := 240) (q := 230) (by decide) (by decide) rfl (hb hby at_227) (fun hc => absurd hcm hc) (fun _ => ?_)
          refine k_aload X92 hx (q := 232) rfl (hb hby at_230) rfl rfl ?_
          refine k_iload X92 hx (q := 234) rfl (hb hby at_232) rfl ?_
          refine k_arB X92 hx hZ rfl (x := (.int ((own_g N n (x2.toInt32.toInt8.toInt32) (((x2.toUInt64 >>> ((8 : Int32) &&& 0x3f).toInt64.toUInt64).toInt64).toInt32.toInt8.toInt32) (((x2.toUInt64 >>> ((16 : Int32) &&& 0x3f).toInt64.toUInt64).toInt64).toInt32.toInt8.toInt32) (((x2.toUInt64 >>> ((24 : Int32) &&& 0x3f).toInt64.toUInt64).toInt64).toInt32.toInt8.toInt32)) (n - 1)))) (n - 1) (q := 235) rfl (hb hby at_234) Vr92 hlast (by omega) rfl ?_
          refine k_iload X92 hx (q := 237) rfl (hb hby at_235) rfl ?_
          refine k_icmp_eq X92 hx (q1 := 242) (q := 240) (by decide) (by decide) rfl (hb hby at_237) (fun _ => ?_) (fun hc => absurd atl hc)
          have J103 : End p e below s (fun v h L => v = some (.int 1) ∧ Fr n0 L) room_1.cells room_1.slots (T92.setTop (mkF m 257 #[.val (.int x0), .val (.int x1), .val (.long x2), .second, .val (.ref ib), .val (.int nd), .val (.ref bb), .val (.int cap), .val (.int len), .val (.int x2.toInt32.toInt8.toInt32), .val (.int ((x2.toUInt64 >>> ((8 : Int32) &&& 0x3f).toInt64.toUInt64).toInt64).toInt32.toInt8.toInt32), .val (.int ((x2.toUInt64 >>> ((16 : Int32) &&& 0x3f).toInt64.toUInt64).toInt64).toInt32.toInt8.toInt32), .val (.int ((x2.toUInt64 >>> ((24 : Int32) &&& 0x3f).toInt64.toUInt64).toInt64).toInt32.toInt8.toInt32), .val (.int mid), .val (.int (len - (1 : Int32))), .val (.ref r1), .val (.int c0), .val (.int cm), .unset] [])) := by
            refine k_aload X92 hx (q := 259) rfl (hb hby at_257) rfl rfl ?_
            refine k_iconst X92 hx (v := (0 : Int32)) rfl (q := 260) rfl (hb hby at_259) ?_
            refine k_aload X92 hx (q := 262) rfl (hb hby at_260) rfl rfl ?_
            refine k_iconst X92 hx (v := (0 : Int32)) rfl (q := 263) rfl (hb hby at_262) ?_
            refine k_arB X92 hx hZ rfl (x := (.int ((own_g N n (x2.toInt32.toInt8.toInt32) (((x2.toUInt64 >>> ((8 : Int32) &&& 0x3f).toInt64.toUInt64).toInt64).toInt32.toInt8.toInt32) (((x2.toUInt64 >>> ((16 : Int32) &&& 0x3f).toInt64.toUInt64).toInt64).toInt32.toInt8.toInt32) (((x2.toUInt64 >>> ((24 : Int32) &&& 0x3f).toInt64.toUInt64).toInt64).toInt32.toInt8.toInt32)) 0))) 0 (q := 264) rfl (hb hby at_263) Vr92 ⟨by decide, by decide⟩ hpos rfl ?_
            refine k_iconst X92 hx (v := (1 : Int32)) rfl (q := 265) rfl (hb hby at_264) ?_
            refine k_iadd X92 hx (q := 266) rfl (hb hby at_265) ?_
            refine k_i2b X92 hx (q := 267) rfl (hb hby at_266) ?_
            have ge_r1 : n0 ≤ r1 := Nat.le_trans Sz84 le92
            refine k_asB X92 hx hZ rfl 0 (q := 268) rfl (hb hby at_267) Vr92 ⟨by decide, by decide⟩ hpos ?_
            intro T106 h106 X106 e106 W106 V106
            have K106 := Keep.of_wr W106
            have N106 := Fr.snoc X106 N92 ge_r1
            refine k_aload X106 hx (q := 270) rfl (hb hby at_268) rfl rfl ?_
            have Sz108 : n0 ≤ T92.heap.size := Nat.le_trans Sz84 K92.1
            have Sz107 : n0 ≤ h106.size := Nat.le_trans Sz108 K106.1
            have ne_ib_r1 : ib ≠ r1 := Nat.ne_of_lt (Nat.lt_of_lt_of_le (G93).lt le92)
            have G109 := ((F183.keep K92 nin0).keep K106 (ninS ne_ib_r1 nin0))
            have G110 := ((F383.keep K92 nin0).keep K106 (ninS ne_ib_r1 nin0))
            have G111 := ((G90.keep K92 nin0).keep K106 (ninS ne_bb_r1 nin0))
            have G112 := ((G91.keep K92).keep K106)
            have G114 := ((G93.keep K92).keep K106)
            refine k_callV X106 hx hZ (y := (⟨"com/example/keyshelf/keyshelf/berkeleydb/ItemBytes", "toArray", "()[B"⟩ : MethodName)) (z := (⟨"com/example/keyshelf/keyshelf/berkeleydb/ItemBytes", "toArray", "()[B"⟩ : MethodName)) hown (hw _ (List.mem_of_getElem? (i := 25) rfl)) (hw _ (List.mem_of_getElem? (i := 26) rfl)) (notFace_of_selects (args := #[]) (mvT hZ (hw _ (List.mem_of_getElem? (i := 28) rfl)))) (hw _ (List.mem_of_getElem? (i := 28) rfl)) (hw _ (List.mem_of_getElem? (i := 27) rfl)) (hw _ (List.mem_of_getElem? (i := 29) rfl)) (hw _ (List.mem_of_getElem? (i := 2) rfl)) (by decide) G114 0 e106 (rm5 l Z a0 hw ib h106 n0 Sz107 bb len G109 G110 N n (own_g N n (x2.toInt32.toInt8.toInt32) (((x2.toUInt64 >>> ((8 : Int32) &&& 0x3f).toInt64.toUInt64).toInt64).toInt32.toInt8.toInt32) (((x2.toUInt64 >>> ((16 : Int32) &&& 0x3f).toInt64.toUInt64).toInt64).toInt32.toInt8.toInt32) (((x2.toUInt64 >>> ((24 : Int32) &&& 0x3f).toInt64.toUInt64).toInt64).toInt32.toInt8.toInt32)) hN2 hlen (by omega) G111 own_gfit G112) (by decide) (by decide) (by decide) (by decide) (by rw [hml]; rfl) (a := ib) (as := []) (rest := []) pd_6 rfl (by first | exact Nat.le_refl _ | simp [Value.category]) (q := 273) rfl (hb hby at_270) ?_
            rintro _ T113 L113 X113 ⟨r2, rfl, N113q, K113, le113, E113, V113⟩
            have N113 := Fr.app N106 N113q
            show End _ _ _ _ _ _ _ (T113.setTop (mkF m 273 #[.val (.int x0), .val (.int x1), .val (.long x2), .second, .val (.ref ib), .val (.int nd), .val (.ref bb), .val (.int cap), .val (.int len), .val (.int x2.toInt32.toInt8.toInt32), .val (.int ((x2.toUInt64 >>> ((8 : Int32) &&& 0x3f).toInt64.toUInt64).toInt64).toInt32.toInt8.toInt32), .val (.int ((x2.toUInt64 >>> ((16 : Int32) &&& 0x3f).toInt64.toUInt64).toInt64).toInt32.toInt8.toInt32), .val (.int ((x2.toUInt64 >>> ((24 : Int32) &&& 0x3f).toInt64.toUInt64).toInt64).toInt32.toInt8.toInt32), .val (.int mid), .val (.int (len - (1 : Int32))), .val (.ref r1), .val (.int c0), .val (.int cm), .unset] [(.ref r2)]))
            have Vr113 : Ary Z T113.heap r2 .byte n (fun t => .int ((own_g N n (x2.toInt32.toInt8.toInt32) (((x2.toUInt64 >>> ((8 : Int32) &&& 0x3f).toInt64.toUInt64).toInt64).toInt32.toInt8.toInt32) (((x2.toUInt64 >>> ((16 : Int32) &&& 0x3f).toInt64.toUInt64).toInt64).toInt32.toInt8.toInt32) (((x2.toUInt64 >>> ((24 : Int32) &&& 0x3f).toInt64.toUInt64).toInt64).toInt32.toInt8.toInt32)) t)) := V113.congr fun t ht => by rw [if_pos (by omega)]
            refine k_astore X113 hx (L' := #[.val (.int x0), .val (.int x1), .val (.long x2), .second, .val (.ref ib), .val (.int nd), .val (.ref bb), .val (.int cap), .val (.int len), .val (.int x2.toInt32.toInt8.toInt32), .val (.int ((x2.toUInt64 >>> ((8 : Int32) &&& 0x3f).toInt64.toUInt64).toInt64).toInt32.toInt8.toInt32), .val (.int ((x2.toUInt64 >>> ((16 : Int32) &&& 0x3f).toInt64.toUInt64).toInt64).toInt32.toInt8.toInt32), .val (.int ((x2.toUInt64 >>> ((24 : Int32) &&& 0x3f).toInt64.toUInt64).toInt64).toInt32.toInt8.toInt32), .val (.int mid), .val (.int (len - (1 : Int32))), .val (.ref r1), .val (.int c0), .val (.int cm), .val (.ref r2)]) (q := 275) rfl (hb hby at_273) rfl rfl ?_
            refine k_aload X113 hx (q := 277) rfl (hb hby at_275) rfl rfl ?_
            refine k_aload X113 hx (q := 279) rfl (hb hby at_277) rfl rfl ?_
            have ne_r1_r2 : r1 ≠ r2 := Nat.ne_of_lt (Nat.lt_of_lt_of_le (V106).lt le113)
            refine k_acmp_n X113 hx (q := 282) rfl (hb hby at_279) rfl rfl (acmp_eq_f (Ne.symm ne_r1_r2)) ?_
            refine k_aload X113 hx (q := 284) rfl (hb hby at_282) rfl rfl ?_
            refine k_aload X113 hx (q := 286) rfl (hb hby at_284) rfl rfl ?_
            have ne_bb_r2 : bb ≠ r2 := Nat.ne_of_lt (Nat.lt_of_lt_of_le (G112).lt le113)
            refine k_acmp_n X113 hx (q := 289) rfl (hb hby at_286) rfl rfl (acmp_eq_f (Ne.symm ne_bb_r2)) ?_
            refine k_aload X113 hx (q := 291) rfl (hb hby at_289) rfl rfl ?_
            refine k_al X113 hx hZ rfl (z := len) (q := 292) rfl (hb hby at_291) Vr113 hln32 ?_
            refine k_iload X113 hx (q := 294) rfl (hb hby at_292) rfl ?_
            refine k_icmp_ne X113 hx (q1 := 340) (q := 297) (by decide) (by decide) rfl (hb hby at_294) (fun hc => absurd rfl hc) (fun _ => ?_)
            refine k_aload X113 hx (q := 299) rfl (hb hby at_297) rfl rfl ?_
            refine k_iconst X113 hx (v := (0 : Int32)) rfl (q := 300) rfl (hb hby at_299) ?_
            refine k_arB X113 hx hZ rfl (x := (.int ((own_g N n (x2.toInt32.toInt8.toInt32) (((x2.toUInt64 >>> ((8 : Int32) &&& 0x3f).toInt64.toUInt64).toInt64).toInt32.toInt8.toInt32) (((x2.toUInt64 >>> ((16 : Int32) &&& 0x3f).toInt64.toUInt64).toInt64).toInt32.toInt8.toInt32) (((x2.toUInt64 >>> ((24 : Int32) &&& 0x3f).toInt64.toUInt64).toInt64).toInt32.toInt8.toInt32)) 0))) 0 (q := 301) rfl (hb hby at_300) Vr113 ⟨by decide, by decide⟩ hpos rfl ?_
            refine k_iload X113 hx (q := 303) rfl (hb hby at_301) rfl ?_
            refine k_icmp_ne X113 hx (q1 := 340) (q := 306) (by decide) (by decide) rfl (hb hby at_303) (fun hc => absurd hc0 hc) (fun _ => ?_)
            refine k_aload X113 hx (q := 308) rfl (hb hby at_306) rfl rfl ?_
            refine k_iconst X113 hx (v := (0 : Int32)) rfl (q := 309) rfl (hb hby at_308) ?_
            have G117 := (G111.keep K113 nin0)
            refine k_arB X113 hx hZ rfl (x := (.int ((own_g N n (x2.toInt32.toInt8.toInt32) (((x2.toUInt64 >>> ((8 : Int32) &&& 0x3f).toInt64.toUInt64).toInt64).toInt32.toInt8.toInt32) (((x2.toUInt64 >>> ((16 : Int32) &&& 0x3f).toInt64.toUInt64).toInt64).toInt32.toInt8.toInt32) (((x2.toUInt64 >>> ((24 : Int32) &&& 0x3f).toInt64.toUInt64).toInt64).toInt32.toInt8.toInt32)) 0))) 0 (q := 310) rfl (hb hby at_309) G117 ⟨by decide, by decide⟩ (by omega) rfl ?_
            refine k_iload X113 hx (q := 312) rfl (hb hby at_310) rfl ?_
            refine k_icmp_ne X113 hx (q1 := 340) (q := 315) (by decide) (by decide) rfl (hb hby at_312) (fun hc => absurd hc0 hc) (fun _ => ?_)
            refine k_aload X113 hx (q := 317) rfl (hb hby at_315) rfl rfl ?_
            refine k_iload X113 hx (q := 319) rfl (hb hby at_317) rfl ?_
            refine k_arB X113 hx hZ rfl (x := (.int ((own_g N n (x2.toInt32.toInt8.toInt32) (((x2.toUInt64 >>> ((8 : Int32) &&& 0x3f).toInt64.toUInt64).toInt64).toInt32.toInt8.toInt32) (((x2.toUInt64 >>> ((16 : Int32) &&& 0x3f).toInt64.toUInt64).toInt64).toInt32.toInt8.toInt32) (((x2.toUInt64 >>> ((24 : Int32) &&& 0x3f).toInt64.toUInt64).toInt64).toInt32.toInt8.toInt32)) (n - 1)))) (n - 1) (q := 320) rfl (hb hby at_319) Vr113 hlast (by omega) rfl ?_
            have J119 : ∀ (cl : Int32), ((own_g N n (x2.toInt32.toInt8.toInt32) (((x2.toUInt64 >>> ((8 : Int32) &&& 0x3f).toInt64.toUInt64).toInt64).toInt32.toInt8.toInt32) (((x2.toUInt64 >>> ((16 : Int32) &&& 0x3f).toInt64.toUInt64).toInt64).toInt32.toInt8.toInt32) (((x2.toUInt64 >>> ((24 : Int32) &&& 0x3f).toInt64.toUInt64).toInt64).toInt32.toInt8.toInt32)) (n - 1) = cl) → End p e below s (fun v h L => v = some (.int 1) ∧ Fr n0 L) room_1.cells room_1.slots (T113.setTop (mkF m 333 #[.val (.int x0), .val (.int x1), .val (.long x2), .second, .val (.ref ib), .val (.int nd), .val (.ref bb), .val (.int cap), .val (.int len), .val (.int x2.toInt32.toInt8.toInt32), .val (.int ((x2.toUInt64 >>> ((8 : Int32) &&& 0x3f).toInt64.toUInt64).toInt64).toInt32.toInt8.toInt32), .val (.int ((x2.toUInt64 >>> ((16 : Int32) &&& 0x3f).toInt64.toUInt64).toInt64).toInt32.toInt8.toInt32), .val (.int ((x2.toUInt64 >>> ((24 : Int32) &&& 0x3f).toInt64.toUInt64).toInt64).toInt32.toInt8.toInt32), .val (.int mid), .val (.int (len - (1 : Int32))), .val (.ref r1), .val (.int c0), .val (.int cm), .val (.ref r2)] [(.int cl), (.int ((own_g N n (x2.toInt32.toInt8.toInt32) (((x2.toUInt64 >>> ((8 : Int32) &&& 0x3f).toInt64.toUInt64).toInt64).toInt32.toInt8.toInt32) (((x2.toUInt64 >>> ((16 : Int32) &&& 0x3f).toInt64.toUInt64).toInt64).toInt32.toInt8.toInt32) (((x2.toUInt64 >>> ((24 : Int32) &&& 0x3f).toInt64.toUInt64).toInt64).toInt32.toInt8.toInt32)) (n - 1)))])) := by
              intro cl hcl
              refine k_icmp_ne X113 hx (q1 := 340) (q := 336) (by decide) (by decide) rfl (hb hby at_333) (fun hc => absurd hcl hc) (fun _ => ?_)
              refine k_iconst X113 hx (v := (1 : Int32)) rfl (q := 337) rfl (hb hby at_336) ?_
              refine k_goto X113 hx (q := 341) (by decide) (by decide) (hb hby at_337) ?_
              exact k_retN X113 hx (t := .boolean) hlk (by decide) (by decide) hret (by simp) (hb hby at_341) ⟨rfl, N113⟩
            refine k_iload X113 hx (q := 322) rfl (hb hby at_320) rfl ?_
            refine k_iconst X113 hx (v := (1 : Int32)) rfl (q := 323) rfl (hb hby at_322) ?_
            refine k_icmp_ne X113 hx (q1 := 331) (q := 326) (by decide) (by decide) rfl (hb hby at_323) (fun hc120 => ?_) (fun hc120 => ?_)
            · refine k_iload X113 hx (q := 333) rfl (hb hby at_331) rfl ?_
              exact J119 _ atl
            · refine k_iload X113 hx (q := 328) rfl (hb hby at_326) rfl ?_
              refine k_goto X113 hx (q := 333) (by decide) (by decide) (hb hby at_328) ?_
              exact J119 _ (by
                have q := (own_eqi hlen (m := 1) (n := 1) ⟨by decide, by decide⟩).mp hc120
                subst q; exact hc0)
          refine k_iload X92 hx (q := 244) rfl (hb hby at_242) rfl ?_
          refine k_iconst X92 hx (v := (4 : Int32)) rfl (q := 245) rfl (hb hby at_244) ?_
          refine k_icmp_lt X92 hx (q1 := 257) (q := 248) (by decide) (by decide) rfl (hb hby at_245) (fun hc104 => ?_) (fun hc104 => ?_)
          · exact J103
          · have hn4 : 4 ≤ n := by have := mt (own_lt (k := n) (n := 4) hlen ⟨by decide, by decide⟩).mpr hc104; omega
            refine k_aload X92 hx (q := 250) rfl (hb hby at_248) rfl rfl ?_
            refine k_iconst X92 hx (v := (1 : Int32)) rfl (q := 251) rfl (hb hby at_250) ?_
            refine k_arB X92 hx hZ rfl (x := (.int ((own_g N n (x2.toInt32.toInt8.toInt32) (((x2.toUInt64 >>> ((8 : Int32) &&& 0x3f).toInt64.toUInt64).toInt64).toInt32.toInt8.toInt32) (((x2.toUInt64 >>> ((16 : Int32) &&& 0x3f).toInt64.toUInt64).toInt64).toInt32.toInt8.toInt32) (((x2.toUInt64 >>> ((24 : Int32) &&& 0x3f).toInt64.toUInt64).toInt64).toInt32.toInt8.toInt32)) 1))) 1 (q := 252) rfl (hb hby at_251) Vr92 ⟨by decide, by decide⟩ (by omega) rfl ?_
            refine k_if_eq X92 hx (q1 := 257) (q := 255) (by decide) (by decide) rfl (hb hby at_252) (fun _ => ?_) (fun hc => absurd (at1 hn4) hc)
            exact J103
        refine k_istore X92 hx (L' := #[.val (.int x0), .val (.int x1), .val (.long x2), .second, .val (.ref ib), .val (.int nd), .val (.ref bb), .val (.int cap), .val (.int len), .val (.int x2.toInt32.toInt8.toInt32), .val (.int ((x2.toUInt64 >>> ((8 : Int32) &&& 0x3f).toInt64.toUInt64).toInt64).toInt32.toInt8.toInt32), .val (.int ((x2.toUInt64 >>> ((16 : Int32) &&& 0x3f).toInt64.toUInt64).toInt64).toInt32.toInt8.toInt32), .val (.int ((x2.toUInt64 >>> ((24 : Int32) &&& 0x3f).toInt64.toUInt64).toInt64).toInt32.toInt8.toInt32), .val (.int mid), .val (.int (len - (1 : Int32))), .val (.ref r1), .val (.int c0), .unset, .unset]) (q := 196) rfl (hb hby at_194) rfl ?_
        refine k_iload X92 hx (q := 198) rfl (hb hby at_196) rfl ?_
        refine k_iconst X92 hx (v := (2 : Int32)) rfl (q := 199) rfl (hb hby at_198) ?_
        refine k_icmp_gt X92 hx (q1 := 207) (q := 202) (by decide) (by decide) rfl (hb hby at_199) (fun hc99 => ?_) (fun hc99 => ?_)
        · refine k_iload X92 hx (q := 209) rfl (hb hby at_207) rfl ?_
          exact J98 _ (by rw [atm, if_pos ((own_lt (k := 2) (n := n) ⟨by decide, by decide⟩ hlen).mp hc99)])
        · refine k_iload X92 hx (q := 204) rfl (hb hby at_202) rfl ?_
          refine k_goto X92 hx (q := 209) (by decide) (by decide) (hb hby at_204) ?_
          exact J98 _ (by rw [atm, if_neg (mt (own_lt (k := 2) (n := n) ⟨by decide, by decide⟩ hlen).mpr hc99)])
      refine k_iload X92 hx (q := 183) rfl (hb hby at_181) rfl ?_
      refine k_iconst X92 hx (v := (1 : Int32)) rfl (q := 184) rfl (hb hby at_183) ?_
      refine k_icmp_ne X92 hx (q1 := 192) (q := 187) (by decide) (by decide) rfl (hb hby at_184) (fun hc97 => ?_) (fun hc97 => ?_)
      · refine k_iload X92 hx (q := 194) rfl (hb hby at_192) rfl ?_
        exact J96 _ (by rw [at0, if_neg (mt (own_eqi hlen (m := 1) (n := 1) ⟨by decide, by decide⟩).mpr hc97)])
      · refine k_iload X92 hx (q := 189) rfl (hb hby at_187) rfl ?_
        refine k_goto X92 hx (q := 194) (by decide) (by decide) (hb hby at_189) ?_
        exact J96 _ (by rw [at0, if_pos ((own_eqi hlen (m := 1) (n := 1) ⟨by decide, by decide⟩).mp hc97)])
set_option maxRecDepth 65536 in
set_option maxHeartbeats 40000000 in
theorem comes_1 {Post : Tables → Env → Array Value → State → Outcome → State → Prop} (hpost : ∀ tb e args s v u, (limb_1_1.after args s (.returned v) u = true ∧ limb_1_2.after args s (.returned v) u = true ∧ True) → FrameEnd s (.returned v) u (Jvm.fieldLocs frame_1_writes args s ++ Jvm.arrayLocs frame_1_arrays args s ++ Jvm.staticLocs frame_1_statics s) 24 13376 → Post tb e args s (.returned v) u) :
    ArmFor flags0 classFile x code maxLocals ret World_1 tables_1 room_1 Calls_1 rest_1 Pre_1 Post := by
  intro l hfl _ _ p e ha hc hk s m args below hf hA hF happ hP
  obtain ⟨hcalls, hrest, hpre⟩ := hP
  obtain ⟨-, -, -, hnamed, -, -, -, hat⟩ := (Spec.applies_iff hf).mp happ
  obtain ⟨hg, hn⟩ := and_e (Cond.before_iff.mp (show (Jvm.Cond.and given_1 narrow_1).before args s = true from hpre))
  obtain ⟨gc, g0⟩ := and_e hg
  obtain ⟨a0, g1⟩ := and_e g0
  obtain ⟨a1, g2⟩ := and_e g1
  obtain ⟨w0, w1, w2, rfl⟩ : ∃ w0 w1 w2 : Value, args = #[w0, w1, w2] := by
    have hs : args.size = 3 := by simpa [Cond.value, given_1] using gc
    obtain ⟨L⟩ := args
    match L, hs with
    | [w0, w1, w2], _ => exact ⟨w0, w1, w2, rfl⟩
  have hw := fun d (hd : d ∈ tables_1) => atoms_spec (ws := Jvm.Cond.code x code maxLocals ret :: tables_1) hat d (List.mem_cons_of_mem _ hd)
  have hfit : Fit s := fun {y c} hc i hi => by
    obtain ⟨ha, rfl⟩ := Array.getElem?_eq_some_iff.mp hc
    have q := List.all_eq_true.mp ((Array.all_eq_true_iff_forall_mem.mp hF) _ (Array.getElem_mem ha)) i (List.mem_range.mpr hi)
    simpa [Array.getElem?_eq_getElem hi] using q
  obtain ⟨i0, ei0⟩ := is_v a0
  obtain rfl : w0 = (.int i0) := Option.some.inj ei0
  obtain ⟨i1, ei1⟩ := is_v a1
  obtain rfl : w1 = (.int i1) := Option.some.inj ei1
  obtain ⟨i2, ei2⟩ := isL_v g2
  obtain rfl : w2 = (.long i2) := Option.some.inj ei2
  obtain ⟨n, o, h1, h2, h3, _, L, rfl, ⟨rfl, N⟩, hq⟩ := rmL l s _ hw i0 i1 i2 s.heap s.heap.size (Nat.le_refl _) p e ha hc hk s m _ below hf ((Spec.applies_iff_loose hf).mp happ).1 ⟨rfl, State.Warmed39.refl s, rfl⟩ trivial
  refine ⟨n, _, h1, h2, h3, hpost _ _ _ _ _ _ ⟨Cond.after_iff.mpr rfl, Cond.after_iff.mpr (eq_i res_at (Term.int_eval (1)) rfl), trivial⟩ ⟨hq.1, hq.2.1, (hq.2.2.sift fun y hy => Or.inr (N y hy)).mono (by decide) (by decide)⟩⟩
theorem main_1_1 : Claimed_1_1 := comes_1 fun _ _ _ _ _ _ h hF => ⟨h.1, hF⟩
theorem main_1_2 : Claimed_1_2 := comes_1 fun _ _ _ _ _ _ h hF => ⟨h.2.1, hF⟩
end Jvm.Pilot.@@N@@
namespace Jvm.Pilot.@@N@@
open Jvm Jvm.ClassFile Sem Op Lib Jvm.Free Jvm.Stand Jvm.Pilot.@@N@@.Jvm.D
/-! MADE BY PROGRAM (witnessworld.py) out of the Statement's table words and the real class files: 12 classes; the members and pool entries that the words name. The judged class is class 1, her method 1. -/
namespace start1
open Jvm.ClassFile
def u (s : String) : CpInfo := .utf8 (stringToUtf16 s)
/-- a pool by its gaps: so many unusable entries, then the entry; so many at the end -/
def gap : Nat → List CpInfo → List CpInfo
  | 0, r => r
  | n + 1, r => .unusable :: gap n r
def poolList (es : List (Nat × CpInfo)) (last : Nat) : List CpInfo := es.foldr (fun e r => gap e.1 (e.2 :: r)) (gap last [])
def pool (es : List (Nat × CpInfo)) (last : Nat) : Array CpInfo := ⟨poolList es last⟩
def fileOf (pool : Array CpInfo) (this : Nat) (attrs : Array Attribute := #[]) (ms : Array MethodInfo := #[]) (fl : Nat := 33) (sup : Nat := 0) (ifs : Array Nat := #[]) (fds : Array FieldInfo := #[]) : ClassFile where
  minorVersion := 0
  majorVersion := 65
  constantPool := pool
  accessFlags := fl
  thisClass := this
  superClass := sup
  interfaces := ifs
  fields := fds
  methods := ms
  attributes := attrs
def plain (name : String) (sup : Option ClassId) : Class where
  name := name
  kind := .ordinary
  loader := none
  accessFlags := 33
  super := sup
  interfaces := #[]
  cf := none
  fields := #[]
  methods := #[]
  instanceTypes := #[]
  staticTypes := #[]
  resolved := #[]
  callSites := []
  init := .initialized
  statics := none
  mirror := none

def pool0 : Array CpInfo := pool [(5, u "<init>"), (0, u "()V"), (1, .class_ 10), (1, u "java/lang/Object"), (85, u "clone"), (0, u "()Ljava/lang/Object;")] 26

def k0c0 : Code := { maxStack := 0, maxLocals := 1, code := object_method_1_code, exceptionTable := #[], attributes := #[] }
def k0m0 : Method := { name := "<init>", desc := "()V", sig := { parameters := [], returnType := none }, accessFlags := 1, code := some k0c0 }
def k0m1 : Method := { name := "clone", desc := "()Ljava/lang/Object;", sig := { parameters := [], returnType := some (.object "java/lang/Object") }, accessFlags := 260, code := none }
/-- java/lang/Object -/
def k0 : Class := { plain "java/lang/Object" none with
  accessFlags := 33
  interfaces := #[]
  cf := some (fileOf pool0 8 #[] #[{ accessFlags := 1, nameIndex := 5, descriptorIndex := 6, attributes := #[] }, { accessFlags := 260, nameIndex := 96, descriptorIndex := 97, attributes := #[] }] 33 0 #[] #[])
  fields := #[]
  methods := #[k0m0, k0m1]
  instanceTypes := #[]
  staticTypes := #[]
  resolved := Array.replicate 124 none
  statics := none }

def pool1 : Array CpInfo := pool [(2, .class_ 4), (0, .nameAndType 5 6), (0, u "java/lang/Object"), (0, u "<init>"), (0, u "()V"), (0, .class_ 8), (0, u "com/example/keyshelf/keyshelf/berkeleydb/ItemBytes"), (0, .methodref 7 3), (0, .methodref 7 11), (0, .nameAndType 12 13), (0, u "room"), (0, u "(IJ)[B"), (0, .integer 2147483647), (0, .methodref 7 16), (0, .nameAndType 17 18), (0, u "setLength"), (0, u "(I)V"), (0, .methodref 7 20), (0, .nameAndType 21 22), (0, u "toArray"), (0, u "()[B"), (0, .class_ 24), (0, u "com/example/keyshelf/keyshelf/berkeleydb/ItemBytesToArrayPinLaw"), (2, u "law"), (0, u "(IIJ)Z")] 5

def k1m0 : Method := { name := "<init>", desc := "()V", sig := { parameters := [], returnType := none }, accessFlags := 1, code := none }
def k1c1 : Code := { maxStack := 4, maxLocals := 19, code := code, exceptionTable := #[], attributes := #[] }
def k1m1 : Method := { name := "law", desc := "(IIJ)Z", sig := { parameters := [.int, .int, .long], returnType := some .boolean }, accessFlags := 9, code := some k1c1 }
/-- com/example/keyshelf/keyshelf/berkeleydb/ItemBytesToArrayPinLaw -/
def k1 : Class := { plain "com/example/keyshelf/keyshelf/berkeleydb/ItemBytesToArrayPinLaw" (some 0) with
  accessFlags := 49
  interfaces := #[]
  cf := some (fileOf pool1 23 #[] #[{ accessFlags := 1, nameIndex := 5, descriptorIndex := 6, attributes := #[] }, { accessFlags := 9, nameIndex := 27, descriptorIndex := 28, attributes := #[] }] 49 2 #[] #[])
  fields := #[]
  methods := #[k1m0, k1m1]
  instanceTypes := #[]
  staticTypes := #[]
  resolved := Array.replicate 34 none
  statics := none }

def pool2 : Array CpInfo := pool [(1, .methodref 2 3), (0, .class_ 4), (0, .nameAndType 5 6), (0, u "java/lang/Object"), (0, u "<init>"), (0, u "()V"), (0, .class_ 8), (0, u "com/example/keyshelf/keyshelf/berkeleydb/ItemBytes"), (0, .fieldref 7 10), (0, .nameAndType 11 12), (0, u "bytes"), (0, u "[B"), (0, .long 2), (1, .methodref 16 17), (0, .class_ 18), (0, .nameAndType 19 20), (0, u "java/lang/Math"), (0, u "max"), (0, u "(JJ)J"), (0, .methodref 16 22), (0, .nameAndType 23 20), (0, u "min"), (0, .methodref 25 26), (0, .class_ 27), (0, .nameAndType 28 29), (0, u "java/util/Arrays"), (0, u "copyOf"), (0, u "([BI)[B"), (0, .fieldref 7 31), (0, .nameAndType 32 33), (0, u "view"), (0, u "Ljava/nio/ByteBuffer;"), (0, .fieldref 7 35), (0, .nameAndType 36 37), (0, u "length"), (0, u "I"), (21, u "FIRST_CAPACITY"), (4, u "room"), (0, u "(IJ)[B"), (1, u "setLength"), (0, u "(I)V"), (0, u "toArray"), (0, u "()[B")] 5

def k2c0 : Code := { maxStack := 2, maxLocals := 1, code := prog_12_method_1_code, exceptionTable := #[], attributes := #[] }
def k2m0 : Method := { name := "<init>", desc := "()V", sig := { parameters := [], returnType := none }, accessFlags := 0, code := some k2c0 }
def k2c1 : Code := { maxStack := 8, maxLocals := 4, code := prog_12_method_2_code, exceptionTable := #[], attributes := #[] }
def k2m1 : Method := { name := "room", desc := "(IJ)[B", sig := { parameters := [.int, .long], returnType := some (.array .byte) }, accessFlags := 0, code := some k2c1 }
def k2c2 : Code := { maxStack := 2, maxLocals := 2, code := prog_12_method_3_code, exceptionTable := #[], attributes := #[] }
def k2m2 : Method := { name := "setLength", desc := "(I)V", sig := { parameters := [.int], returnType := none }, accessFlags := 0, code := some k2c2 }
def k2c3 : Code := { maxStack := 2, maxLocals := 1, code := prog_12_method_5_code, exceptionTable := #[], attributes := #[] }
def k2m3 : Method := { name := "toArray", desc := "()[B", sig := { parameters := [], returnType := some (.array .byte) }, accessFlags := 0, code := some k2c3 }
/-- com/example/keyshelf/keyshelf/berkeleydb/ItemBytes -/
def k2 : Class := { plain "com/example/keyshelf/keyshelf/berkeleydb/ItemBytes" (some 0) with
  accessFlags := 48
  interfaces := #[]
  cf := some (fileOf pool2 7 #[] #[{ accessFlags := 0, nameIndex := 5, descriptorIndex := 6, attributes := #[] }, { accessFlags := 0, nameIndex := 64, descriptorIndex := 65, attributes := #[] }, { accessFlags := 0, nameIndex := 67, descriptorIndex := 68, attributes := #[] }, { accessFlags := 0, nameIndex := 69, descriptorIndex := 70, attributes := #[] }] 48 2 #[] #[{ accessFlags := 26, nameIndex := 59, descriptorIndex := 37, attributes := #[] }, { accessFlags := 2, nameIndex := 11, descriptorIndex := 12, attributes := #[] }, { accessFlags := 2, nameIndex := 36, descriptorIndex := 37, attributes := #[] }, { accessFlags := 2, nameIndex := 32, descriptorIndex := 33, attributes := #[] }])
  fields := #[{ name := "FIRST_CAPACITY", type := .int, accessFlags := 26, slot := 0, constantValue := 0 }, { name := "bytes", type := (.array .byte), accessFlags := 2, slot := 0, constantValue := 0 }, { name := "length", type := .int, accessFlags := 2, slot := 1, constantValue := 0 }, { name := "view", type := (.object "java/nio/ByteBuffer"), accessFlags := 2, slot := 2, constantValue := 0 }]
  methods := #[k2m0, k2m1, k2m2, k2m3]
  instanceTypes := #[(.array .byte), .int, (.object "java/nio/ByteBuffer")]
  staticTypes := #[.int]
  resolved := Array.replicate 76 none
  statics := none }

def pool3 : Array CpInfo := pool [(2, .class_ 4), (1, u "java/lang/Object"), (0, u "<init>"), (0, u "()V"), (7, .class_ 16), (1, u "java/util/Arrays"), (57, .class_ 76), (1, u "java/util/Arrays$NaturalOrder"), (32, u "()Ljava/lang/Object;"), (3, .class_ 115), (1, u "java/util/Arrays$LegacyMergeSort"), (1, u "Z"), (10, .nameAndType 129 109), (0, u "clone"), (20, .methodref 151 152), (0, .class_ 153), (0, .nameAndType 154 155), (0, u "java/lang/System"), (0, u "arraycopy"), (0, u "(Ljava/lang/Object;ILjava/lang/Object;II)V"), (146, u "copyOf"), (1, .methodref 305 306), (0, .class_ 307), (0, .nameAndType 308 309), (0, u "java/lang/Math"), (0, u "min"), (0, u "(II)I"), (0, .methodref 311 128), (0, .class_ 312), (0, u "[B"), (62, .class_ 376), (0, u "java/util/Arrays$ArrayList"), (68, u "$assertionsDisabled"), (269, u "MIN_ARRAY_SORT_GRAN"), (0, u "I"), (2, u "INSERTIONSORT_THRESHOLD"), (149, u "([BI)[B"), (105, .class_ 976), (0, u "java/util/Arrays$ArrayItr")] 52

def k3m0 : Method := { name := "<init>", desc := "()V", sig := { parameters := [], returnType := none }, accessFlags := 2, code := none }
def k3c1 : Code := { maxStack := 6, maxLocals := 3, code := jdk_65_method_121_code, exceptionTable := #[], attributes := #[] }
def k3m1 : Method := { name := "copyOf", desc := "([BI)[B", sig := { parameters := [(.array .byte), .int], returnType := some (.array .byte) }, accessFlags := 9, code := some k3c1 }
/-- java/util/Arrays -/
def k3 : Class := { plain "java/util/Arrays" (some 0) with
  accessFlags := 49
  interfaces := #[]
  cf := some (fileOf pool3 14 #[.nestMembers #[975, 375, 113, 74]] #[{ accessFlags := 2, nameIndex := 5, descriptorIndex := 6, attributes := #[] }, { accessFlags := 9, nameIndex := 302, descriptorIndex := 869, attributes := #[] }] 49 2 #[] #[{ accessFlags := 26, nameIndex := 715, descriptorIndex := 716, attributes := #[] }, { accessFlags := 26, nameIndex := 719, descriptorIndex := 716, attributes := #[] }, { accessFlags := 4120, nameIndex := 445, descriptorIndex := 117, attributes := #[] }])
  fields := #[{ name := "MIN_ARRAY_SORT_GRAN", type := .int, accessFlags := 26, slot := 0, constantValue := 0 }, { name := "INSERTIONSORT_THRESHOLD", type := .int, accessFlags := 26, slot := 1, constantValue := 0 }, { name := "$assertionsDisabled", type := .boolean, accessFlags := 4120, slot := 2, constantValue := 0 }]
  methods := #[k3m0, k3m1]
  instanceTypes := #[]
  staticTypes := #[.int, .int, .boolean]
  resolved := Array.replicate 1029 none
  statics := none }

def pool4 : Array CpInfo := pool [(1, .class_ 2), (0, u "java/lang/Math"), (1, .class_ 6), (1, u "java/lang/Object"), (0, u "<init>"), (0, u "()V"), (89, .class_ 100), (1, u "java/lang/Math$RandomNumberGeneratorHolder"), (20, u "(JJ)J"), (50, u "negativeZeroFloatBits"), (0, u "J"), (2, u "negativeZeroDoubleBits"), (21, u "max"), (2, u "min"), (43, u "$assertionsDisabled"), (0, u "Z"), (88, u "(II)I"), (2, u "twoToTheDoubleScaleDown"), (0, u "D"), (4, u "twoToTheDoubleScaleUp"), (9, u "E"), (3, u "PI"), (2, u "TAU"), (2, u "DEGREES_TO_RADIANS"), (0, u "RADIANS_TO_DEGREES")] 94

def k4m0 : Method := { name := "<init>", desc := "()V", sig := { parameters := [], returnType := none }, accessFlags := 2, code := none }
def k4c1 : Code := { maxStack := 4, maxLocals := 4, code := jdk_29_method_66_code, exceptionTable := #[], attributes := #[] }
def k4m1 : Method := { name := "max", desc := "(JJ)J", sig := { parameters := [.long, .long], returnType := some .long }, accessFlags := 9, code := some k4c1 }
def k4c2 : Code := { maxStack := 2, maxLocals := 2, code := jdk_29_method_69_code, exceptionTable := #[], attributes := #[] }
def k4m2 : Method := { name := "min", desc := "(II)I", sig := { parameters := [.int, .int], returnType := some .int }, accessFlags := 9, code := some k4c2 }
def k4c3 : Code := { maxStack := 4, maxLocals := 4, code := jdk_29_method_70_code, exceptionTable := #[], attributes := #[] }
def k4m3 : Method := { name := "min", desc := "(JJ)J", sig := { parameters := [.long, .long], returnType := some .long }, accessFlags := 9, code := some k4c3 }
/-- java/lang/Math -/
def k4 : Class := { plain "java/lang/Math" (some 0) with
  accessFlags := 49
  interfaces := #[]
  cf := some (fileOf pool4 1 #[.nestMembers #[98]] #[{ accessFlags := 2, nameIndex := 7, descriptorIndex := 8, attributes := #[] }, { accessFlags := 9, nameIndex := 198, descriptorIndex := 121, attributes := #[] }, { accessFlags := 9, nameIndex := 201, descriptorIndex := 335, attributes := #[] }, { accessFlags := 9, nameIndex := 201, descriptorIndex := 121, attributes := #[] }] 49 4 #[] #[{ accessFlags := 25, nameIndex := 354, descriptorIndex := 339, attributes := #[] }, { accessFlags := 25, nameIndex := 358, descriptorIndex := 339, attributes := #[] }, { accessFlags := 25, nameIndex := 361, descriptorIndex := 339, attributes := #[] }, { accessFlags := 26, nameIndex := 364, descriptorIndex := 339, attributes := #[] }, { accessFlags := 26, nameIndex := 365, descriptorIndex := 339, attributes := #[] }, { accessFlags := 26, nameIndex := 172, descriptorIndex := 173, attributes := #[] }, { accessFlags := 26, nameIndex := 176, descriptorIndex := 173, attributes := #[] }, { accessFlags := 8, nameIndex := 344, descriptorIndex := 339, attributes := #[] }, { accessFlags := 8, nameIndex := 338, descriptorIndex := 339, attributes := #[] }, { accessFlags := 4120, nameIndex := 245, descriptorIndex := 246, attributes := #[] }])
  fields := #[{ name := "E", type := .double, accessFlags := 25, slot := 0, constantValue := 0 }, { name := "PI", type := .double, accessFlags := 25, slot := 1, constantValue := 0 }, { name := "TAU", type := .double, accessFlags := 25, slot := 2, constantValue := 0 }, { name := "DEGREES_TO_RADIANS", type := .double, accessFlags := 26, slot := 3, constantValue := 0 }, { name := "RADIANS_TO_DEGREES", type := .double, accessFlags := 26, slot := 4, constantValue := 0 }, { name := "negativeZeroFloatBits", type := .long, accessFlags := 26, slot := 5, constantValue := 0 }, { name := "negativeZeroDoubleBits", type := .long, accessFlags := 26, slot := 6, constantValue := 0 }, { name := "twoToTheDoubleScaleUp", type := .double, accessFlags := 8, slot := 7, constantValue := 0 }, { name := "twoToTheDoubleScaleDown", type := .double, accessFlags := 8, slot := 8, constantValue := 0 }, { name := "$assertionsDisabled", type := .boolean, accessFlags := 4120, slot := 9, constantValue := 0 }]
  methods := #[k4m0, k4m1, k4m2, k4m3]
  instanceTypes := #[]
  staticTypes := #[.double, .double, .double, .double, .double, .long, .long, .double, .double, .boolean]
  resolved := Array.replicate 460 none
  statics := none }

def pool5 : Array CpInfo := pool [(2, .class_ 4), (1, u "java/lang/Object"), (0, u "<init>"), (0, u "()V"), (1, .class_ 10), (1, u "java/lang/System"), (0, u "allowSecurityManager"), (0, u "I"), (16, u "cons"), (0, u "Ljava/io/Console;"), (77, .class_ 110), (1, u "java/lang/System$CallersHolder"), (43, u "initialErrStream"), (0, u "Ljava/io/PrintStream;"), (19, u "security"), (0, u "Ljava/lang/SecurityManager;"), (31, .class_ 209), (0, u "java/lang/System$1"), (7, u "props"), (0, u "Ljava/util/Properties;"), (2, u "lineSeparator"), (0, u "Ljava/lang/String;"), (96, .class_ 321), (1, u "java/lang/System$LoggerFinder"), (5, .class_ 328), (0, u "java/lang/System$Logger"), (67, u "err"), (2, u "out"), (91, u "notSupportedJnuEncoding"), (15, u "in"), (17, u "initialIn"), (0, u "Ljava/io/InputStream;"), (35, u "bootLayer"), (0, u "Ljava/lang/ModuleLayer;"), (99, .class_ 664), (0, u "java/lang/System$2"), (9, u "NEVER"), (2, u "MAYBE"), (49, u "arraycopy"), (0, u "(Ljava/lang/Object;ILjava/lang/Object;II)V"), (72, .class_ 802), (0, u "java/lang/System$Logger$Level")] 31

def k5m0 : Method := { name := "<init>", desc := "()V", sig := { parameters := [], returnType := none }, accessFlags := 2, code := none }
def k5m1 : Method := { name := "arraycopy", desc := "(Ljava/lang/Object;ILjava/lang/Object;II)V", sig := { parameters := [(.object "java/lang/Object"), .int, (.object "java/lang/Object"), .int, .int], returnType := none }, accessFlags := 265, code := none }
/-- java/lang/System -/
def k5 : Class := { plain "java/lang/System" (some 0) with
  accessFlags := 49
  interfaces := #[]
  cf := some (fileOf pool5 8 #[.nestMembers #[319, 327, 801, 108, 663, 208]] #[{ accessFlags := 2, nameIndex := 5, descriptorIndex := 6, attributes := #[] }, { accessFlags := 265, nameIndex := 727, descriptorIndex := 728, attributes := #[] }] 49 2 #[] #[{ accessFlags := 25, nameIndex := 507, descriptorIndex := 526, attributes := #[] }, { accessFlags := 25, nameIndex := 399, descriptorIndex := 155, attributes := #[] }, { accessFlags := 25, nameIndex := 396, descriptorIndex := 155, attributes := #[] }, { accessFlags := 10, nameIndex := 525, descriptorIndex := 526, attributes := #[] }, { accessFlags := 26, nameIndex := 674, descriptorIndex := 12, attributes := #[] }, { accessFlags := 26, nameIndex := 677, descriptorIndex := 12, attributes := #[] }, { accessFlags := 10, nameIndex := 11, descriptorIndex := 12, attributes := #[] }, { accessFlags := 74, nameIndex := 175, descriptorIndex := 176, attributes := #[] }, { accessFlags := 10, nameIndex := 491, descriptorIndex := 222, attributes := #[] }, { accessFlags := 74, nameIndex := 29, descriptorIndex := 30, attributes := #[] }, { accessFlags := 74, nameIndex := 154, descriptorIndex := 155, attributes := #[] }, { accessFlags := 10, nameIndex := 217, descriptorIndex := 218, attributes := #[] }, { accessFlags := 10, nameIndex := 221, descriptorIndex := 222, attributes := #[] }, { accessFlags := 8, nameIndex := 562, descriptorIndex := 563, attributes := #[] }])
  fields := #[{ name := "in", type := (.object "java/io/InputStream"), accessFlags := 25, slot := 0, constantValue := 0 }, { name := "out", type := (.object "java/io/PrintStream"), accessFlags := 25, slot := 1, constantValue := 0 }, { name := "err", type := (.object "java/io/PrintStream"), accessFlags := 25, slot := 2, constantValue := 0 }, { name := "initialIn", type := (.object "java/io/InputStream"), accessFlags := 10, slot := 3, constantValue := 0 }, { name := "NEVER", type := .int, accessFlags := 26, slot := 4, constantValue := 0 }, { name := "MAYBE", type := .int, accessFlags := 26, slot := 5, constantValue := 0 }, { name := "allowSecurityManager", type := .int, accessFlags := 10, slot := 6, constantValue := 0 }, { name := "security", type := (.object "java/lang/SecurityManager"), accessFlags := 74, slot := 7, constantValue := 0 }, { name := "notSupportedJnuEncoding", type := (.object "java/lang/String"), accessFlags := 10, slot := 8, constantValue := 0 }, { name := "cons", type := (.object "java/io/Console"), accessFlags := 74, slot := 9, constantValue := 0 }, { name := "initialErrStream", type := (.object "java/io/PrintStream"), accessFlags := 74, slot := 10, constantValue := 0 }, { name := "props", type := (.object "java/util/Properties"), accessFlags := 10, slot := 11, constantValue := 0 }, { name := "lineSeparator", type := (.object "java/lang/String"), accessFlags := 10, slot := 12, constantValue := 0 }, { name := "bootLayer", type := (.object "java/lang/ModuleLayer"), accessFlags := 8, slot := 13, constantValue := 0 }]
  methods := #[k5m0, k5m1]
  instanceTypes := #[]
  staticTypes := #[(.object "java/io/InputStream"), (.object "java/io/PrintStream"), (.object "java/io/PrintStream"), (.object "java/io/InputStream"), .int, .int, .int, (.object "java/lang/SecurityManager"), (.object "java/lang/String"), (.object "java/io/Console"), (.object "java/io/PrintStream"), (.object "java/util/Properties"), (.object "java/lang/String"), (.object "java/lang/ModuleLayer")]
  resolved := Array.replicate 834 none
  statics := none }

def pool6 : Array CpInfo := pool [(1, .class_ 2), (0, u "java/lang/Cloneable"), (0, .class_ 4), (0, u "java/lang/Object")] 2

/-- java/lang/Cloneable -/
def k6 : Class := { plain "java/lang/Cloneable" (some 0) with
  accessFlags := 1537
  interfaces := #[]
  cf := some (fileOf pool6 1 #[] #[] 1537 3 #[] #[])
  fields := #[]
  methods := #[]
  instanceTypes := #[]
  staticTypes := #[]
  resolved := Array.replicate 7 none
  statics := none }

def pool7 : Array CpInfo := pool [(1, u "java/io/Serializable"), (0, .class_ 1), (0, u "java/lang/Object"), (0, .class_ 3)] 3

/-- java/io/Serializable -/
def k7 : Class := { plain "java/io/Serializable" (some 0) with
  accessFlags := 1537
  interfaces := #[]
  cf := some (fileOf pool7 2 #[] #[] 1537 4 #[] #[])
  fields := #[]
  methods := #[]
  instanceTypes := #[]
  staticTypes := #[]
  resolved := Array.replicate 8 none
  statics := none }

/-- the primitive byte -/
def k8 : Class := { plain "byte" none with kind := .primitive 'B', accessFlags := 0x411 }
/-- [B -/
def k9 : Class := { plain "[B" (some 0) with kind := .array 8 .byte, interfaces := #[6, 7], accessFlags := 1041 }

/-- the primitive int -/
def k10 : Class := { plain "int" none with kind := .primitive 'I', accessFlags := 0x411 }
/-- [I -/
def k11 : Class := { plain "[I" (some 0) with kind := .array 10 .int, interfaces := #[6, 7], accessFlags := 1041 }

def heap : Heap := #[]
def classes : Array Class := #[k0, k1, k2, k3, k4, k5, k6, k7, k8, k9, k10, k11]
def interned : List (Array UInt16 × Addr) := []
def slotsUsed : Nat := 0
def theMethod : MethodId := ⟨1, 1⟩
def args0 : Array Value := #[.int 600, .int 5, .long 77]
def aboutOver (below : List Frame) : State where
  vm := { classes := classes, interned := interned.toArray }
  heap := heap
  slotsUsed := slotsUsed
  threads := #[{ frames := .invoking theMethod args0 :: below }]
def below0 : List Frame := [.native { method := ⟨0, 0⟩, args := #[] }]
def about1 : State := aboutOver below0
def p0 : Program := .bare "" "" ""
def e0 : Env := launch0.env 0 0 0
theorem w_frames : about1.frames = Frame.invoking theMethod args0 :: below0 := rfl
set_option maxRecDepth 65536 in
theorem w_args : argsFit about1.vm theMethod args0 = true := by decide +kernel
set_option maxRecDepth 65536 in
theorem w_heap : heapFits about1 = true := by decide +kernel
set_option maxRecDepth 65536 in
theorem w_runnable : about1.curStatus? = some .runnable := by decide +kernel
set_option maxRecDepth 65536 in
theorem w_alone : about1.alone = true := by decide +kernel
set_option maxRecDepth 65536 in
theorem w_named : about1.methodNamed? x = some theMethod := by decide +kernel
set_option maxRecDepth 65536 in
theorem w_hears : about1.hears theMethod below0 = true := by decide +kernel
set_option maxRecDepth 65536 in
theorem w_ripe : about1.ripe theMethod args0 below0 = true := by decide +kernel
theorem w_running : about1.status = .running := rfl
set_option maxRecDepth 65536 in
theorem w_room : about1.hasRoom e0.platform room_1 = true :=
  launch0.hasRoom_least _ room_1 (by decide +kernel) (by decide +kernel) (by decide +kernel) (by decide +kernel) (by decide +kernel) (by decide +kernel)
theorem allAtoms_all (ts : List Jvm.Cond) (a : Array Jvm.Value) (st : Jvm.State) : (allAtoms ts).before a st = ts.all (fun c => c.before a st) := by
  induction ts with
  | nil => rfl
  | cons c t ih =>
    show (Jvm.Cond.and c (allAtoms t)).before a st = _
    rw [Jvm.Cond.before_and, ih, List.all_cons]
def words1 : List Jvm.Cond := Jvm.Cond.code x code maxLocals ret :: tables_1
/-- a 'code' word, met by the world's own term for the bytes: nothing is compared byte by byte -/
theorem code_word {y : MethodName} {bytes : ByteArray} {mx : Nat} {rt : Option FieldType} {a : Array Value} {s : State} {m : MethodId} {meth : Method} {c : Code} (h1 : s.methodNamed? y = some m) (h2 : s.vm.method? m = some meth) (h3 : meth.code = some c) (h4 : c.code = bytes)
    (h5 : (c.maxLocals == mx && c.exceptionTable.isEmpty && decide (c.maxStack ≤ mostOperands) && decide (meth.sig.returnType = rt) && !meth.locks && decide (parseMethodDescriptor y.desc = some meth.sig)) = true) : (Jvm.Cond.code y bytes mx rt).before a s = true := by
  simp only [Bool.and_eq_true, beq_iff_eq, Bool.not_eq_true', decide_eq_true_eq] at h5
  obtain ⟨⟨⟨⟨⟨g1, g2⟩, g3⟩, g4⟩, g5⟩, g6⟩ := h5
  simp [Cond.before, Cond.holds, Cond.value, h1, h2, h3, h4, g1, g2, g3, g4, g5, g6]
def isCode : Jvm.Cond → Bool
  | .code _ _ _ _ => true
  | _ => false
theorem all_split {L : List Jvm.Cond} {P : Jvm.Cond → Bool} (h1 : L.all (fun c => isCode c || P c) = true) (h2 : ∀ c ∈ L.filter isCode, P c = true) : L.all P = true := by
  refine List.all_eq_true.mpr fun c hc => ?_
  have h := List.all_eq_true.mp h1 c hc
  rcases Bool.eq_false_or_eq_true (isCode c) with hi | hi
  · exact h2 c (List.mem_filter.mpr ⟨hc, hi⟩)
  · simpa [hi] using h
set_option maxRecDepth 65536 in
theorem w_c0 : (Jvm.Cond.code x code maxLocals ret).before args0 about1 = true := code_word (m := ⟨1, 1⟩) (meth := k1m1) (c := k1c1) (by decide +kernel) rfl rfl rfl (by decide +kernel)
set_option maxRecDepth 65536 in
theorem w_c1 : (Jvm.Cond.code ({ cls := "com/example/keyshelf/keyshelf/berkeleydb/ItemBytes", name := "<init>", desc := "()V" } : Jvm.MethodName) prog_12_method_1_code (1 : Nat) (Option.none : Option Jvm.ClassFile.FieldType)).before args0 about1 = true := code_word (m := ⟨2, 0⟩) (meth := k2m0) (c := k2c0) (by decide +kernel) rfl rfl rfl (by decide +kernel)
set_option maxRecDepth 65536 in
theorem w_c2 : (Jvm.Cond.code ({ cls := "java/lang/Object", name := "<init>", desc := "()V" } : Jvm.MethodName) object_method_1_code (1 : Nat) (Option.none : Option Jvm.ClassFile.FieldType)).before args0 about1 = true := code_word (m := ⟨0, 0⟩) (meth := k0m0) (c := k0c0) (by decide +kernel) rfl rfl rfl (by decide +kernel)
set_option maxRecDepth 65536 in
theorem w_c3 : (Jvm.Cond.code ({ cls := "com/example/keyshelf/keyshelf/berkeleydb/ItemBytes", name := "room", desc := "(IJ)[B" } : Jvm.MethodName) prog_12_method_2_code (4 : Nat) (Option.some (Jvm.ClassFile.FieldType.array Jvm.ClassFile.FieldType.byte))).before args0 about1 = true := code_word (m := ⟨2, 1⟩) (meth := k2m1) (c := k2c1) (by decide +kernel) rfl rfl rfl (by decide +kernel)
set_option maxRecDepth 65536 in
theorem w_c4 : (Jvm.Cond.code ({ cls := "com/example/keyshelf/keyshelf/berkeleydb/ItemBytes", name := "setLength", desc := "(I)V" } : Jvm.MethodName) prog_12_method_3_code (2 : Nat) (Option.none : Option Jvm.ClassFile.FieldType)).before args0 about1 = true := code_word (m := ⟨2, 2⟩) (meth := k2m2) (c := k2c2) (by decide +kernel) rfl rfl rfl (by decide +kernel)
set_option maxRecDepth 65536 in
theorem w_c5 : (Jvm.Cond.code ({ cls := "com/example/keyshelf/keyshelf/berkeleydb/ItemBytes", name := "toArray", desc := "()[B" } : Jvm.MethodName) prog_12_method_5_code (1 : Nat) (Option.some (Jvm.ClassFile.FieldType.array Jvm.ClassFile.FieldType.byte))).before args0 about1 = true := code_word (m := ⟨2, 3⟩) (meth := k2m3) (c := k2c3) (by decide +kernel) rfl rfl rfl (by decide +kernel)
set_option maxRecDepth 65536 in
theorem w_c6 : (Jvm.Cond.code ({ cls := "java/util/Arrays", name := "copyOf", desc := "([BI)[B" } : Jvm.MethodName) jdk_65_method_121_code (3 : Nat) (Option.some (Jvm.ClassFile.FieldType.array Jvm.ClassFile.FieldType.byte))).before args0 about1 = true := code_word (m := ⟨3, 1⟩) (meth := k3m1) (c := k3c1) (by decide +kernel) rfl rfl rfl (by decide +kernel)
set_option maxRecDepth 65536 in
theorem w_c7 : (Jvm.Cond.code ({ cls := "java/lang/Math", name := "min", desc := "(II)I" } : Jvm.MethodName) jdk_29_method_69_code (2 : Nat) (Option.some Jvm.ClassFile.FieldType.int)).before args0 about1 = true := code_word (m := ⟨4, 2⟩) (meth := k4m2) (c := k4c2) (by decide +kernel) rfl rfl rfl (by decide +kernel)
set_option maxRecDepth 65536 in
theorem w_c8 : (Jvm.Cond.code ({ cls := "java/lang/Math", name := "max", desc := "(JJ)J" } : Jvm.MethodName) jdk_29_method_66_code (4 : Nat) (Option.some Jvm.ClassFile.FieldType.long)).before args0 about1 = true := code_word (m := ⟨4, 1⟩) (meth := k4m1) (c := k4c1) (by decide +kernel) rfl rfl rfl (by decide +kernel)
set_option maxRecDepth 65536 in
theorem w_c9 : (Jvm.Cond.code ({ cls := "java/lang/Math", name := "min", desc := "(JJ)J" } : Jvm.MethodName) jdk_29_method_70_code (4 : Nat) (Option.some Jvm.ClassFile.FieldType.long)).before args0 about1 = true := code_word (m := ⟨4, 3⟩) (meth := k4m3) (c := k4c3) (by decide +kernel) rfl rfl rfl (by decide +kernel)
def codes1 : List Jvm.Cond := [Jvm.Cond.code x code maxLocals ret, Jvm.Cond.code ({ cls := "com/example/keyshelf/keyshelf/berkeleydb/ItemBytes", name := "<init>", desc := "()V" } : Jvm.MethodName) prog_12_method_1_code (1 : Nat) (Option.none : Option Jvm.ClassFile.FieldType), Jvm.Cond.code ({ cls := "java/lang/Object", name := "<init>", desc := "()V" } : Jvm.MethodName) object_method_1_code (1 : Nat) (Option.none : Option Jvm.ClassFile.FieldType), Jvm.Cond.code ({ cls := "com/example/keyshelf/keyshelf/berkeleydb/ItemBytes", name := "room", desc := "(IJ)[B" } : Jvm.MethodName) prog_12_method_2_code (4 : Nat) (Option.some (Jvm.ClassFile.FieldType.array Jvm.ClassFile.FieldType.byte)), Jvm.Cond.code ({ cls := "com/example/keyshelf/keyshelf/berkeleydb/ItemBytes", name := "setLength", desc := "(I)V" } : Jvm.MethodName) prog_12_method_3_code (2 : Nat) (Option.none : Option Jvm.ClassFile.FieldType), Jvm.Cond.code ({ cls := "com/example/keyshelf/keyshelf/berkeleydb/ItemBytes", name := "toArray", desc := "()[B" } : Jvm.MethodName) prog_12_method_5_code (1 : Nat) (Option.some (Jvm.ClassFile.FieldType.array Jvm.ClassFile.FieldType.byte)), Jvm.Cond.code ({ cls := "java/util/Arrays", name := "copyOf", desc := "([BI)[B" } : Jvm.MethodName) jdk_65_method_121_code (3 : Nat) (Option.some (Jvm.ClassFile.FieldType.array Jvm.ClassFile.FieldType.byte)), Jvm.Cond.code ({ cls := "java/lang/Math", name := "min", desc := "(II)I" } : Jvm.MethodName) jdk_29_method_69_code (2 : Nat) (Option.some Jvm.ClassFile.FieldType.int), Jvm.Cond.code ({ cls := "java/lang/Math", name := "max", desc := "(JJ)J" } : Jvm.MethodName) jdk_29_method_66_code (4 : Nat) (Option.some Jvm.ClassFile.FieldType.long), Jvm.Cond.code ({ cls := "java/lang/Math", name := "min", desc := "(JJ)J" } : Jvm.MethodName) jdk_29_method_70_code (4 : Nat) (Option.some Jvm.ClassFile.FieldType.long)]
set_option maxRecDepth 65536 in
theorem codes_eq : words1.filter isCode = codes1 := rfl
theorem w_codes : ∀ c ∈ words1.filter isCode, c.before args0 about1 = true := by
  rw [codes_eq]
  intro c hc
  simp only [codes1, List.mem_cons, List.not_mem_nil, or_false] at hc
  rcases hc with rfl | rfl | rfl | rfl | rfl | rfl | rfl | rfl | rfl | rfl
  · exact w_c0
  · exact w_c1
  · exact w_c2
  · exact w_c3
  · exact w_c4
  · exact w_c5
  · exact w_c6
  · exact w_c7
  · exact w_c8
  · exact w_c9
set_option maxRecDepth 65536 in
theorem w_t1 : (words1.take 24).all (fun c => isCode c || c.before args0 about1) = true := by decide +kernel
set_option maxRecDepth 65536 in
theorem w_t2 : ((words1.drop 24).take 24).all (fun c => isCode c || c.before args0 about1) = true := by decide +kernel
set_option maxRecDepth 65536 in
theorem w_t3 : ((words1.drop 24).drop 24).all (fun c => isCode c || c.before args0 about1) = true := by decide +kernel
theorem w_tables : (allAtoms (Jvm.Cond.code x code maxLocals ret :: tables_1)).before args0 about1 = true := by
  rw [allAtoms_all]
  show words1.all (fun c => c.before args0 about1) = true
  refine all_split ?_ w_codes
  rw [← List.take_append_drop 24 words1, List.all_append, w_t1, ← List.take_append_drop 24 (words1.drop 24), List.all_append, w_t2, w_t3]
  rfl
set_option maxRecDepth 65536 in
theorem w_case : (Jvm.Cond.and given_1 narrow_1).before args0 about1 = true := by decide +kernel
theorem w_applies : (headSpec (Jvm.Cond.code x code maxLocals ret :: tables_1) room_1).applies x e0.platform about1 = true :=
  (Spec.applies_iff w_frames).mpr ⟨w_running, w_runnable, w_alone, w_named, w_hears, w_ripe, w_room, w_tables⟩
theorem atStart : AtStart classFile x code maxLocals ret World_1 tables_1 room_1 Calls_1 rest_1 Pre_1 launch0 p0 e0 about1 theMethod args0 below0 :=
  ⟨lists_1, trivial, launch0.admits_env _ _ _, launch0.least_env, fairChoices_fair.cas, fairChoices_fair.clock, w_frames, w_args, w_heap, w_applies, trivial, trivial, w_case⟩
end start1
theorem witness_1 : WitnessClaimed_1 := ⟨start1.p0, start1.e0, start1.about1, start1.theMethod, start1.args0, start1.below0, start1.atStart⟩
end Jvm.Pilot.@@N@@
