import JvmDerived
import JvmDerived.Pilot.@@N@@Statement
import JvmDerived.Pilot.@@N@@Code
set_option linter.unusedVariables false
set_option linter.unusedSimpArgs false
namespace Jvm.OwnK
open Sem ClassFile Op Lib Jvm.Stand Jvm.Free Jvm.LawKit Jvm.RoadKit
/-- from cur the body's run returns; Q holds of what it returns, the heap then, the places written; F of the end -/
def EndG (p : Program) (e : Env) (below : List Frame) (F : Outcome → State → List Loc → Prop) (Q : Option Value → Heap → List Loc → Prop) (cur : State) : Prop :=
  ∃ s₂ o, Steps p.tables e below cur s₂ ∧ s₂.status = .running ∧ Ended s₂ below o ∧ ∃ v L, o = .returned v ∧ Q v s₂.heap L ∧ F o s₂ L
abbrev End (p : Program) (e : Env) (below : List Frame) (s : State) (Q : Option Value → Heap → List Loc → Prop) (cl sl : Nat) (cur : State) : Prop := EndG p e below (fun o t L => FrameEnd s o t L cl sl) Q cur
/-- a body's contract: entered with the arguments 'as' at the heap h (tables warmer than Z's) it returns, and Q holds -/
def Con (l : Launch) (Z : State) (y : MethodName) (bytes : ByteArray) (maxL : Nat) (ret : Option FieldType) (ws : List Cond) (rm : Room) (as : Array Value) (h : Heap) (Q : Option Value → Heap → List Loc → Prop) : Prop :=
  MetFree l y (head1 (Cond.code y bytes maxL ret :: ws) rm) (fun a U => a = as ∧ Z.Warmed39 U.vm ∧ U.heap = h) (fun _ _ _ _ _ => True) (fun _ U o U' => ∃ v L, o = .returned v ∧ Q v U'.heap L ∧ FrameEnd U o U' L rm.cells rm.slots)
theorem retI_eq {a b : Int32} (h : b = a) : (some (Value.int a) : Option Value) = some (.int b) := by rw [h]
theorem retJ_eq {a b : Int64} (h : b = a) : (some (Value.long a) : Option Value) = some (.long b) := by rw [h]
theorem retD_eq {a b : UInt64} (h : b = a) : (some (Value.double a) : Option Value) = some (.double b) := by rw [h]
section Steps
variable {p : Program} {l : Launch} {e : Env} {R : Room} {s : State} {m : MethodId} {args : Array Value} {below : List Frame} {meth : Method} {c : Code} {T : State} {locs : List Loc} {cells slots : Nat} {Fe : Outcome → State → List Loc → Prop} {Q : Option Value → Heap → List Loc → Prop} {cl sl : Nat} {pc q : Nat} {Ls : Array Slot} {rest : List Value}
theorem EndG.st {cur nxt : State} (k : EndG p e below Fe Q nxt) (st : ∀ t, Steps p.tables e below nxt t → Steps p.tables e below cur t) : EndG p e below Fe Q cur := by
  obtain ⟨s₂, o, h1, r⟩ := k; exact ⟨s₂, o, st _ h1, r⟩
theorem EndG.tr {cur nxt : State} (k : EndG p e below Fe Q nxt) (st : Steps p.tables e below cur nxt) : EndG p e below Fe Q cur := by
  obtain ⟨s₂, o, h1, r⟩ := k; exact ⟨s₂, o, st.trans h1, r⟩
theorem End.cast {g g' : JFrame} (k : EndG p e below Fe Q (T.setTop g')) (h : g = g') : EndG p e below Fe Q (T.setTop g) := h ▸ k
theorem Con.of {Z : State} {y : MethodName} {bytes : ByteArray} {maxL : Nat} {ret : Option FieldType} {ws : List Cond} {rm : Room} {as : Array Value} {h : Heap} (hpl : plainFor y = true)
    (body : ∀ (p : Program) (e : Env) (s : State) (m : MethodId) (below : List Frame) (meth : Method) (c : Code) (s₁ : State), Stand p l e rm s m as below meth c s₁ [] 0 0 → p.tables.exec = Jvm.exec → c.code = bytes → c.maxLocals = maxL → s.vm.findClass y.cls = some m.cls → meth.name = y.name → meth.sig.returnType = ret → meth.locks = false → Z.Warmed39 s.vm → s₁.heap = h → End p e below s Q rm.cells rm.slots (s₁.setTop (entryFrame m as maxL))) :
    Con l Z y bytes maxL ret ws rm as h Q := by
  refine MetFree.of_bodySF hpl hisR ?_
  intro p e s m args below meth c s₁ Bd hml hP hK
  obtain ⟨rfl, hZ, hh⟩ := hP
  obtain ⟨s₂, o, h1, h2, h3, v, L, h4, h5, h6⟩ := body p e s m below meth c s₁ (Stand.of_body Bd) Bd.exec Bd.bytes hml (findClass_of_methodNamed Bd.named) (name_of_methodNamed Bd.named Bd.method).1 Bd.returns Bd.notSynchronized hZ (by rw [← hh, Bd.state]; rfl)
  exact ⟨s₂, o, h1, h2, h3, v, L, h4, h5, h6⟩
theorem Con.mono {Z : State} {y : MethodName} {bytes : ByteArray} {maxL : Nat} {ret : Option FieldType} {ws : List Cond} {rm : Room} {as : Array Value} {h : Heap} {Q' : Option Value → Heap → List Loc → Prop} (k : Con l Z y bytes maxL ret ws rm as h Q) (hQ : ∀ v hh L, Q v hh L → Q' v hh L) : Con l Z y bytes maxL ret ws rm as h Q' := by
  intro p e ha hc hk s m args below hf happ hP hK
  obtain ⟨n, o, h1, h2, h3, v, L, h4, h5, h6⟩ := k p e ha hc hk s m args below hf happ hP hK
  exact ⟨n, o, h1, h2, h3, v, L, h4, hQ _ _ _ h5, h6⟩
theorem k_iloadN (X : Stand p l e R s m args below meth c T locs cells slots) (hx : p.tables.exec = Jvm.exec) {j : Fin 4} {v : Int32} (hq : pc + 1 = q) (hd : decode c.code pc = .ok (.iload_n j, 1)) (hl : Ls[j.val]? = some (.val (.int v))) (k : EndG p e below Fe Q (T.setTop (mkF m q Ls (.int v :: rest)))) : EndG p e below Fe Q (T.setTop (mkF m pc Ls (rest))) := by
  subst hq; exact k.st fun t w => XS.iloadN X.here hx rfl hd hl w
theorem k_iload (X : Stand p l e R s m args below meth c T locs cells slots) (hx : p.tables.exec = Jvm.exec) {j : Nat} {v : Int32} (hq : pc + 2 = q) (hd : decode c.code pc = .ok (.iload j, 2)) (hl : Ls[j]? = some (.val (.int v))) (k : EndG p e below Fe Q (T.setTop (mkF m q Ls (.int v :: rest)))) : EndG p e below Fe Q (T.setTop (mkF m pc Ls (rest))) := by
  subst hq; exact k.st fun t w => XS.iload X.here hx rfl hd hl w
theorem k_istoreN (X : Stand p l e R s m args below meth c T locs cells slots) (hx : p.tables.exec = Jvm.exec) {j : Fin 4} {v : Int32} {L' : Array Slot} (hq : pc + 1 = q) (hd : decode c.code pc = .ok (.istore_n j, 1)) (hl : storeLocals Ls j.val (.int v) = some L') (k : EndG p e below Fe Q (T.setTop (mkF m q L' (rest)))) : EndG p e below Fe Q (T.setTop (mkF m pc Ls (.int v :: rest))) := by
  subst hq; exact k.st fun t w => XS.istoreN X.here hx rfl hd rfl hl w
theorem k_istore (X : Stand p l e R s m args below meth c T locs cells slots) (hx : p.tables.exec = Jvm.exec) {j : Nat} {v : Int32} {L' : Array Slot} (hq : pc + 2 = q) (hd : decode c.code pc = .ok (.istore j, 2)) (hl : storeLocals Ls j (.int v) = some L') (k : EndG p e below Fe Q (T.setTop (mkF m q L' (rest)))) : EndG p e below Fe Q (T.setTop (mkF m pc Ls (.int v :: rest))) := by
  subst hq; exact k.st fun t w => XS.istore X.here hx rfl hd rfl hl w
theorem k_lloadN (X : Stand p l e R s m args below meth c T locs cells slots) (hx : p.tables.exec = Jvm.exec) {j : Fin 4} {v : Int64} (hq : pc + 1 = q) (hd : decode c.code pc = .ok (.lload_n j, 1)) (hl : Ls[j.val]? = some (.val (.long v))) (k : EndG p e below Fe Q (T.setTop (mkF m q Ls (.long v :: rest)))) : EndG p e below Fe Q (T.setTop (mkF m pc Ls (rest))) := by
  subst hq; exact k.st fun t w => XS.lloadN X.here hx rfl hd hl w
theorem k_lload (X : Stand p l e R s m args below meth c T locs cells slots) (hx : p.tables.exec = Jvm.exec) {j : Nat} {v : Int64} (hq : pc + 2 = q) (hd : decode c.code pc = .ok (.lload j, 2)) (hl : Ls[j]? = some (.val (.long v))) (k : EndG p e below Fe Q (T.setTop (mkF m q Ls (.long v :: rest)))) : EndG p e below Fe Q (T.setTop (mkF m pc Ls (rest))) := by
  subst hq; exact k.st fun t w => XS.lload X.here hx rfl hd hl w
theorem k_lstore (X : Stand p l e R s m args below meth c T locs cells slots) (hx : p.tables.exec = Jvm.exec) {j : Nat} {v : Int64} {L' : Array Slot} (hq : pc + 2 = q) (hd : decode c.code pc = .ok (.lstore j, 2)) (hl : storeLocals Ls j (.long v) = some L') (k : EndG p e below Fe Q (T.setTop (mkF m q L' (rest)))) : EndG p e below Fe Q (T.setTop (mkF m pc Ls (.long v :: rest))) := by
  subst hq; exact k.st fun t w => XS.lstore X.here hx rfl hd rfl hl w
theorem k_aloadN (X : Stand p l e R s m args below meth c T locs cells slots) (hx : p.tables.exec = Jvm.exec) {j : Fin 4} {v : Value} (hq : pc + 1 = q) (hd : decode c.code pc = .ok (.aload_n j, 1)) (hl : Ls[j.val]? = some (.val v)) (hv : v.isRef = true) (k : EndG p e below Fe Q (T.setTop (mkF m q Ls (v :: rest)))) : EndG p e below Fe Q (T.setTop (mkF m pc Ls (rest))) := by
  subst hq; exact k.st fun t w => XS.aloadN X.here hx rfl hd hl hv w
theorem k_aload (X : Stand p l e R s m args below meth c T locs cells slots) (hx : p.tables.exec = Jvm.exec) {j : Nat} {v : Value} (hq : pc + 2 = q) (hd : decode c.code pc = .ok (.aload j, 2)) (hl : Ls[j]? = some (.val v)) (hv : v.isRef = true) (k : EndG p e below Fe Q (T.setTop (mkF m q Ls (v :: rest)))) : EndG p e below Fe Q (T.setTop (mkF m pc Ls (rest))) := by
  subst hq; exact k.st fun t w => XS.aload X.here hx rfl hd hl hv w
theorem k_astoreN (X : Stand p l e R s m args below meth c T locs cells slots) (hx : p.tables.exec = Jvm.exec) {j : Fin 4} {v : Value} {L' : Array Slot} (hq : pc + 1 = q) (hd : decode c.code pc = .ok (.astore_n j, 1)) (hv : v.isRef = true) (hl : storeLocals Ls j.val v = some L') (k : EndG p e below Fe Q (T.setTop (mkF m q L' (rest)))) : EndG p e below Fe Q (T.setTop (mkF m pc Ls (v :: rest))) := by
  subst hq; exact k.st fun t w => XS.astoreN X.here hx rfl hd rfl hv hl w
theorem k_astore (X : Stand p l e R s m args below meth c T locs cells slots) (hx : p.tables.exec = Jvm.exec) {j : Nat} {v : Value} {L' : Array Slot} (hq : pc + 2 = q) (hd : decode c.code pc = .ok (.astore j, 2)) (hv : v.isRef = true) (hl : storeLocals Ls j v = some L') (k : EndG p e below Fe Q (T.setTop (mkF m q L' (rest)))) : EndG p e below Fe Q (T.setTop (mkF m pc Ls (v :: rest))) := by
  subst hq; exact k.st fun t w => XS.astore X.here hx rfl hd rfl hv hl w
theorem k_iconst (X : Stand p l e R s m args below meth c T locs cells slots) (hx : p.tables.exec = Jvm.exec) {i : Int} {v : Int32} (hv : Int32.ofInt i = v) (hq : pc + 1 = q) (hd : decode c.code pc = .ok (.iconst i, 1)) (k : EndG p e below Fe Q (T.setTop (mkF m q Ls (.int v :: rest)))) : EndG p e below Fe Q (T.setTop (mkF m pc Ls (rest))) := by
  subst hq hv; exact k.st fun t w => XS.iconst X.here hx rfl hd w
theorem k_bipush (X : Stand p l e R s m args below meth c T locs cells slots) (hx : p.tables.exec = Jvm.exec) {i : Int} {v : Int32} (hv : (Int8.ofInt i).toInt32 = v) (hq : pc + 2 = q) (hd : decode c.code pc = .ok (.bipush i, 2)) (k : EndG p e below Fe Q (T.setTop (mkF m q Ls (.int v :: rest)))) : EndG p e below Fe Q (T.setTop (mkF m pc Ls (rest))) := by
  subst hq hv; exact k.st fun t w => XS.bipush X.here hx rfl hd w
theorem k_sipush (X : Stand p l e R s m args below meth c T locs cells slots) (hx : p.tables.exec = Jvm.exec) {i : Int} {v : Int32} (hv : (Int16.ofInt i).toInt32 = v) (hq : pc + 3 = q) (hd : decode c.code pc = .ok (.sipush i, 3)) (k : EndG p e below Fe Q (T.setTop (mkF m q Ls (.int v :: rest)))) : EndG p e below Fe Q (T.setTop (mkF m pc Ls (rest))) := by
  subst hq hv; exact k.st fun t w => XS.sipush X.here hx rfl hd w
theorem k_aconst_null (X : Stand p l e R s m args below meth c T locs cells slots) (hx : p.tables.exec = Jvm.exec) (hq : pc + 1 = q) (hd : decode c.code pc = .ok (.aconst_null, 1)) (k : EndG p e below Fe Q (T.setTop (mkF m q Ls (.null :: rest)))) : EndG p e below Fe Q (T.setTop (mkF m pc Ls (rest))) := by
  subst hq; exact k.st fun t w => XS.aconstNull X.here hx rfl hd w
theorem k_iadd (X : Stand p l e R s m args below meth c T locs cells slots) (hx : p.tables.exec = Jvm.exec) {x y : Int32} (hq : pc + 1 = q) (hd : decode c.code pc = .ok (.iadd, 1)) (k : EndG p e below Fe Q (T.setTop (mkF m q Ls (.int (x + y) :: rest)))) : EndG p e below Fe Q (T.setTop (mkF m pc Ls (.int y :: .int x :: rest))) := by
  subst hq; exact k.st fun t w => XS.iadd X.here hx rfl hd rfl w
theorem k_ladd (X : Stand p l e R s m args below meth c T locs cells slots) (hx : p.tables.exec = Jvm.exec) {x y : Int64} (hq : pc + 1 = q) (hd : decode c.code pc = .ok (.ladd, 1)) (k : EndG p e below Fe Q (T.setTop (mkF m q Ls (.long (x + y) :: rest)))) : EndG p e below Fe Q (T.setTop (mkF m pc Ls (.long y :: .long x :: rest))) := by
  subst hq; exact k.st fun t w => XS.ladd X.here hx rfl hd rfl w
theorem k_lsub (X : Stand p l e R s m args below meth c T locs cells slots) (hx : p.tables.exec = Jvm.exec) {x y : Int64} (hq : pc + 1 = q) (hd : decode c.code pc = .ok (.lsub, 1)) (k : EndG p e below Fe Q (T.setTop (mkF m q Ls (.long (x - y) :: rest)))) : EndG p e below Fe Q (T.setTop (mkF m pc Ls (.long y :: .long x :: rest))) := by
  subst hq; exact k.st fun t w => XS.lsub X.here hx rfl hd rfl w
theorem k_iand (X : Stand p l e R s m args below meth c T locs cells slots) (hx : p.tables.exec = Jvm.exec) {x y : Int32} (hq : pc + 1 = q) (hd : decode c.code pc = .ok (.iand, 1)) (k : EndG p e below Fe Q (T.setTop (mkF m q Ls (.int (x &&& y) :: rest)))) : EndG p e below Fe Q (T.setTop (mkF m pc Ls (.int y :: .int x :: rest))) := by
  subst hq; exact k.st fun t w => XS.iand X.here hx rfl hd rfl w
theorem k_lxor (X : Stand p l e R s m args below meth c T locs cells slots) (hx : p.tables.exec = Jvm.exec) {x y : Int64} (hq : pc + 1 = q) (hd : decode c.code pc = .ok (.lxor, 1)) (k : EndG p e below Fe Q (T.setTop (mkF m q Ls (.long (x ^^^ y) :: rest)))) : EndG p e below Fe Q (T.setTop (mkF m pc Ls (.long y :: .long x :: rest))) := by
  subst hq; exact k.st fun t w => XS.lxor X.here hx rfl hd rfl w
theorem k_irem (X : Stand p l e R s m args below meth c T locs cells slots) (hx : p.tables.exec = Jvm.exec) {x y : Int32} (hq : pc + 1 = q) (hd : decode c.code pc = .ok (.irem, 1)) (hy : y ≠ 0) (k : EndG p e below Fe Q (T.setTop (mkF m q Ls (.int (x % y) :: rest)))) : EndG p e below Fe Q (T.setTop (mkF m pc Ls (.int y :: .int x :: rest))) := by
  subst hq; exact k.st fun t w => iremM X hx rfl hd rfl hy w
theorem k_l2i (X : Stand p l e R s m args below meth c T locs cells slots) (hx : p.tables.exec = Jvm.exec) {x : Int64} (hq : pc + 1 = q) (hd : decode c.code pc = .ok (.l2i, 1)) (k : EndG p e below Fe Q (T.setTop (mkF m q Ls (.int x.toInt32 :: rest)))) : EndG p e below Fe Q (T.setTop (mkF m pc Ls (.long x :: rest))) := by
  subst hq; exact k.st fun t w => XS.l2i X.here hx rfl hd rfl w
theorem k_dup (X : Stand p l e R s m args below meth c T locs cells slots) (hx : p.tables.exec = Jvm.exec) {x : Value} (hq : pc + 1 = q) (hd : decode c.code pc = .ok (.dup, 1)) (hc : x.category = 1) (k : EndG p e below Fe Q (T.setTop (mkF m q Ls (x :: x :: rest)))) : EndG p e below Fe Q (T.setTop (mkF m pc Ls (x :: rest))) := by
  subst hq; exact k.st fun t w => XS.dup X.here hx rfl hd rfl hc w
theorem k_goto (X : Stand p l e R s m args below meth c T locs cells slots) (hx : p.tables.exec = Jvm.exec) {o : Int} (ho : 0 ≤ (pc : Int) + o) (hp : ((pc : Int) + o).toNat = q) (hd : decode c.code pc = .ok (.goto o, 3)) (k : EndG p e below Fe Q (T.setTop (mkF m q Ls (rest)))) : EndG p e below Fe Q (T.setTop (mkF m pc Ls (rest))) :=
  k.st fun t w => XS.goto X.here hx rfl (pc0 := pc) (pc' := q) rfl hd ho hp w
theorem k_if_eq (X : Stand p l e R s m args below meth c T locs cells slots) (hx : p.tables.exec = Jvm.exec) {x : Int32} {o : Int} {q1 : Nat} (ho : 0 ≤ (pc : Int) + o) (hp : ((pc : Int) + o).toNat = q1) (hq : pc + 3 = q) (hd : decode c.code pc = .ok (.ifCond .eq o, 3)) (kt : x = 0 → EndG p e below Fe Q (T.setTop (mkF m q1 Ls (rest)))) (kf : ¬ x = 0 → EndG p e below Fe Q (T.setTop (mkF m q Ls (rest)))) : EndG p e below Fe Q (T.setTop (mkF m pc Ls (.int x :: rest))) := by
  by_cases h : x = 0
  · exact (kt h).st fun t w => XS.ifYes X.here hx rfl (pc0 := pc) (pc' := q1) rfl hd rfl (XT.i0_eq_t h) ho hp w
  · subst hq; exact (kf h).st fun t w => XS.ifNo X.here hx rfl hd rfl (XT.i0_eq_f h) w
theorem k_icmp_ne (X : Stand p l e R s m args below meth c T locs cells slots) (hx : p.tables.exec = Jvm.exec) {x y : Int32} {o : Int} {q1 : Nat} (ho : 0 ≤ (pc : Int) + o) (hp : ((pc : Int) + o).toNat = q1) (hq : pc + 3 = q) (hd : decode c.code pc = .ok (.if_icmp .ne o, 3)) (kt : ¬ x = y → EndG p e below Fe Q (T.setTop (mkF m q1 Ls (rest)))) (kf : x = y → EndG p e below Fe Q (T.setTop (mkF m q Ls (rest)))) : EndG p e below Fe Q (T.setTop (mkF m pc Ls (.int y :: .int x :: rest))) := by
  by_cases h : x = y
  · subst hq; exact (kf h).st fun t w => XS.icmpNo X.here hx rfl hd rfl (XT.ii_ne_f h) w
  · exact (kt h).st fun t w => XS.icmpYes X.here hx rfl (pc0 := pc) (pc' := q1) rfl hd rfl (XT.ii_ne_t h) ho hp w
theorem k_if_ne (X : Stand p l e R s m args below meth c T locs cells slots) (hx : p.tables.exec = Jvm.exec) {x : Int32} {o : Int} {q1 : Nat} (ho : 0 ≤ (pc : Int) + o) (hp : ((pc : Int) + o).toNat = q1) (hq : pc + 3 = q) (hd : decode c.code pc = .ok (.ifCond .ne o, 3)) (kt : ¬ x = 0 → EndG p e below Fe Q (T.setTop (mkF m q1 Ls (rest)))) (kf : x = 0 → EndG p e below Fe Q (T.setTop (mkF m q Ls (rest)))) : EndG p e below Fe Q (T.setTop (mkF m pc Ls (.int x :: rest))) := by
  by_cases h : x = 0
  · subst hq; exact (kf h).st fun t w => XS.ifNo X.here hx rfl hd rfl (XT.i0_ne_f h) w
  · exact (kt h).st fun t w => XS.ifYes X.here hx rfl (pc0 := pc) (pc' := q1) rfl hd rfl (XT.i0_ne_t h) ho hp w
theorem k_lcmp_ne (X : Stand p l e R s m args below meth c T locs cells slots) (hx : p.tables.exec = Jvm.exec) {x y : Int64} {o : Int} {q1 : Nat} (ho : 0 ≤ ((pc + 1 : Nat) : Int) + o) (hp : (((pc + 1 : Nat) : Int) + o).toNat = q1) (hq : pc + 1 + 3 = q) (hd0 : decode c.code pc = .ok (.lcmp, 1)) (hd : decode c.code (pc + 1) = .ok (.ifCond .ne o, 3)) (kt : ¬ x = y → EndG p e below Fe Q (T.setTop (mkF m q1 Ls (rest)))) (kf : x = y → EndG p e below Fe Q (T.setTop (mkF m q Ls (rest)))) : EndG p e below Fe Q (T.setTop (mkF m pc Ls (.long y :: .long x :: rest))) := by
  by_cases h : x = y
  · subst hq; exact (kf h).st fun t w => XT.lcmp X.here hx rfl hd0 rfl <| XS.ifNo X.here hx rfl hd rfl (XT.ll_ne_f h) w
  · exact (kt h).st fun t w => XT.lcmp X.here hx rfl hd0 rfl <| XS.ifYes X.here hx rfl (pc0 := pc + 1) (pc' := q1) rfl hd rfl (XT.ll_ne_t h) ho hp w
theorem k_lcmp_lt (X : Stand p l e R s m args below meth c T locs cells slots) (hx : p.tables.exec = Jvm.exec) {x y : Int64} {o : Int} {q1 : Nat} (ho : 0 ≤ ((pc + 1 : Nat) : Int) + o) (hp : (((pc + 1 : Nat) : Int) + o).toNat = q1) (hq : pc + 1 + 3 = q) (hd0 : decode c.code pc = .ok (.lcmp, 1)) (hd : decode c.code (pc + 1) = .ok (.ifCond .lt o, 3)) (kt : x < y → EndG p e below Fe Q (T.setTop (mkF m q1 Ls (rest)))) (kf : ¬ x < y → EndG p e below Fe Q (T.setTop (mkF m q Ls (rest)))) : EndG p e below Fe Q (T.setTop (mkF m pc Ls (.long y :: .long x :: rest))) := by
  by_cases h : x < y
  · exact (kt h).st fun t w => XT.lcmp X.here hx rfl hd0 rfl <| XS.ifYes X.here hx rfl (pc0 := pc + 1) (pc' := q1) rfl hd rfl (XT.ll_lt_t h) ho hp w
  · subst hq; exact (kf h).st fun t w => XT.lcmp X.here hx rfl hd0 rfl <| XS.ifNo X.here hx rfl hd rfl (XT.ll_lt_f h) w
theorem k_lcmp_gt (X : Stand p l e R s m args below meth c T locs cells slots) (hx : p.tables.exec = Jvm.exec) {x y : Int64} {o : Int} {q1 : Nat} (ho : 0 ≤ ((pc + 1 : Nat) : Int) + o) (hp : (((pc + 1 : Nat) : Int) + o).toNat = q1) (hq : pc + 1 + 3 = q) (hd0 : decode c.code pc = .ok (.lcmp, 1)) (hd : decode c.code (pc + 1) = .ok (.ifCond .gt o, 3)) (kt : y < x → EndG p e below Fe Q (T.setTop (mkF m q1 Ls (rest)))) (kf : ¬ y < x → EndG p e below Fe Q (T.setTop (mkF m q Ls (rest)))) : EndG p e below Fe Q (T.setTop (mkF m pc Ls (.long y :: .long x :: rest))) := by
  by_cases h : y < x
  · exact (kt h).st fun t w => XT.lcmp X.here hx rfl hd0 rfl <| XS.ifYes X.here hx rfl (pc0 := pc + 1) (pc' := q1) rfl hd rfl (XT.ll_gt_t h) ho hp w
  · subst hq; exact (kf h).st fun t w => XT.lcmp X.here hx rfl hd0 rfl <| XS.ifNo X.here hx rfl hd rfl (XT.ll_gt_f h) w
theorem k_retN (X : Stand p l e R s m args below meth c T locs cells slots) (hx : p.tables.exec = Jvm.exec) {z : Int32} {t : FieldType} (hlk : meth.locks = false) (hcl : cells ≤ cl) (hsl : slots ≤ sl) (hret : meth.sig.returnType = some t) (ht : t = .boolean ∨ t = .byte ∨ t = .char ∨ t = .short) (hd : decode c.code pc = .ok (.ireturn, 1)) (hQ : Q (some (.int (nar t z))) T.heap locs) : End p e below s Q cl sl (T.setTop (mkF m pc Ls (.int z :: rest))) := by
  obtain ⟨fs, hr, hrun, hended, hW, hsame⟩ := X.leave (v := (some (.int (nar t z)))) (fun h => by rw [hret] at h; cases h) hlk
  refine ⟨_, _, ?_, hrun, hended, _, _, rfl, hQ, ⟨_, rfl⟩, hW, hsame.mono hcl hsl⟩
  exact retN X hx hret ht hd hr
theorem k_retA (X : Stand p l e R s m args below meth c T locs cells slots) (hx : p.tables.exec = Jvm.exec) {z : Value} {t : FieldType} (hlk : meth.locks = false) (hcl : cells ≤ cl) (hsl : slots ≤ sl) (hret : meth.sig.returnType = some t) (ht : t.isReference = true) (hz : z.isRef = true) (hd : decode c.code pc = .ok (.areturn, 1)) (hQ : Q (some z) T.heap locs) : End p e below s Q cl sl (T.setTop (mkF m pc Ls (z :: rest))) := by
  obtain ⟨fs, hr, hrun, hended, hW, hsame⟩ := X.leave (v := (some z)) (fun h => by rw [hret] at h; cases h) hlk
  refine ⟨_, _, ?_, hrun, hended, _, _, rfl, hQ, ⟨_, rfl⟩, hW, hsame.mono hcl hsl⟩
  exact retOut X hx hret (by cases t <;> first | rfl | (simp [FieldType.isReference] at ht)) (Or.inr (Or.inr (Or.inr (Or.inr ⟨rfl, ht, hz⟩)))) hd hr
theorem k_retV (X : Stand p l e R s m args below meth c T locs cells slots) (hx : p.tables.exec = Jvm.exec)  (hlk : meth.locks = false) (hcl : cells ≤ cl) (hsl : slots ≤ sl) (hret : meth.sig.returnType = none) (hd : decode c.code pc = .ok (.return_, 1)) (hQ : Q none T.heap locs) : End p e below s Q cl sl (T.setTop (mkF m pc Ls ([]))) := by
  obtain ⟨fs, hr, hrun, hended, hW, hsame⟩ := X.leave (v := none) (fun _ => rfl) hlk
  refine ⟨_, _, ?_, hrun, hended, _, _, rfl, hQ, ⟨_, rfl⟩, hW, hsame.mono hcl hsl⟩
  exact X.returnOut hx hret hd hr
variable {Z : State} {a0 : Array Value} {h : Heap}
theorem k_ldcI (X : Stand p l e R s m args below meth c T locs cells slots) (hx : p.tables.exec = Jvm.exec) (hZ : Z.Warmed39 s.vm) {own : String} {index : Nat} {v : Int32} (hown : s.vm.findClass own = some m.cls) (w0 : (Cond.constant own index v).before a0 Z = true) (hq : pc + 2 = q) (hd : decode c.code pc = .ok (.ldc index, 2)) (k : EndG p e below Fe Q (T.setTop (mkF m q Ls (.int v :: rest)))) : EndG p e below Fe Q (T.setTop (mkF m pc Ls (rest))) := by
  subst hq; exact k.st fun t w => X.ldcInt hx hown (mvT hZ w0) (g := (mkF m pc Ls (rest))) rfl hd t w
theorem k_ldc2J (X : Stand p l e R s m args below meth c T locs cells slots) (hx : p.tables.exec = Jvm.exec) (hZ : Z.Warmed39 s.vm) {own : String} {index : Nat} {v : Int64} (hown : s.vm.findClass own = some m.cls) (w0 : (Cond.constantLong own index v).before a0 Z = true) (hq : pc + 3 = q) (hd : decode c.code pc = .ok (.ldc2_w index, 3)) (k : EndG p e below Fe Q (T.setTop (mkF m q Ls (.long v :: rest)))) : EndG p e below Fe Q (T.setTop (mkF m pc Ls (rest))) := by
  subst hq; exact k.st fun t w => X.ldc2Long hx hown (mvT hZ w0) (g := (mkF m pc Ls (rest))) rfl hd t w
theorem k_getF (X : Stand p l e R s m args below meth c T locs cells slots) (hx : p.tables.exec = Jvm.exec) (hZ : Z.Warmed39 s.vm) {own R0 O n d host : String} {index : Nat} (hown : s.vm.findClass own = some m.cls) (w0 : (Cond.fieldLink own index R0 n d).before a0 Z = true ∨ (Cond.fieldLinkNest own index R0 n d host).before a0 Z = true) (via : Via Z R0 O n d) (eT : T.heap = h) {a : Addr} {v : Value} (hq : pc + 3 = q) (hd : decode c.code pc = .ok (.getfield index, 3)) (F : Fld Z h a O n d v) (k : ∀ T', Stand p l e R s m args below meth c T' locs cells slots → T'.heap = h → EndG p e below Fe Q (T'.setTop (mkF m q Ls (v :: rest)))) : EndG p e below Fe Q (T.setTop (mkF m pc Ls (.ref a :: rest))) := by
  subst hq; obtain ⟨T', X', e', st⟩ := getF X hx hZ hown w0 via eT F (g := (mkF m pc Ls (.ref a :: rest))) rfl rfl hd
  exact (k T' X' e').st st
theorem k_getS (X : Stand p l e R s m args below meth c T locs cells slots) (hx : p.tables.exec = Jvm.exec) (hZ : Z.Warmed39 s.vm) {own R0 O n d host : String} {index : Nat} (hown : s.vm.findClass own = some m.cls) (w0 : (Cond.fieldLink own index R0 n d).before a0 Z = true ∨ (Cond.fieldLinkNest own index R0 n d host).before a0 Z = true) (via : Via Z R0 O n d) (eT : T.heap = h) {v : Value} (hq : pc + 3 = q) (hd : decode c.code pc = .ok (.getstatic index, 3)) (F : Sta Z h O n d v) (k : ∀ T', Stand p l e R s m args below meth c T' locs cells slots → T'.heap = h → EndG p e below Fe Q (T'.setTop (mkF m q Ls (v :: rest)))) : EndG p e below Fe Q (T.setTop (mkF m pc Ls (rest))) := by
  subst hq; obtain ⟨T', X', e', st⟩ := getS2 X hx hZ hown w0 via eT F (g := (mkF m pc Ls (rest))) rfl hd
  exact (k T' X' e').st st
theorem k_putF (X : Stand p l e R s m args below meth c T locs cells slots) (hx : p.tables.exec = Jvm.exec) (hZ : Z.Warmed39 s.vm) {own R0 O n d host C : String} {index kk : Nat} {ty : FieldType} (hown : s.vm.findClass own = some m.cls) (w0 : (Cond.fieldLink own index R0 n d).before a0 Z = true ∨ (Cond.fieldLinkNest own index R0 n d host).before a0 Z = true) (via : Via Z R0 O n d) (eT : T.heap = h) {a : Addr} {v old : Value} (L0 : (Cond.lays C O n d).before a0 Z = true ∨ ((Cond.laysFinal C O n d).before a0 Z = true ∧ own = O ∧ meth.name = "<init>")) (wi : (Cond.instantiable C kk).before a0 Z = true) (hty : parseFieldDescriptor d = some ty) (hn : narrow ty v = v) (hf : fits ty v = true) (hq : pc + 3 = q) (hd : decode c.code pc = .ok (.putfield index, 3)) (F : Fld Z h a O n d old) (E : Exa Z h a C) (k : ∀ T' h', Stand p l e R s m args below meth c T' (locs ++ [⟨a, Jvm.RoadKit.slotOf Z O n d⟩]) cells slots → T'.heap = h' → Wr h h' a (Jvm.RoadKit.slotOf Z O n d) v → EndG p e below Fe Q (T'.setTop (mkF m q Ls (rest)))) : EndG p e below Fe Q (T.setTop (mkF m pc Ls (v :: .ref a :: rest))) := by
  subst hq; obtain ⟨T', h', X', e', W', st⟩ := putF X hx hZ hown w0 via eT F E L0 wi hty hn hf (g := (mkF m pc Ls (v :: .ref a :: rest))) rfl rfl hd
  exact (k T' h' X' e' W').st st
theorem k_new (X : Stand p l e R s m args below meth c T locs cells slots) (hx : p.tables.exec = Jvm.exec) (hZ : Z.Warmed39 s.vm) {own C : String} {index n : Nat} (hown : s.vm.findClass own = some m.cls) (w0 : (Cond.classLink own index C).before a0 Z = true) (wi : (Cond.instantiable C n).before a0 Z = true) (wz : (Cond.initialized C).before a0 Z = true) (eT : T.heap = h) (hq : pc + 3 = q) (hd : decode c.code pc = .ok (.new index, 3)) (hc : cells + 1 ≤ R.cells) (hl : slots + n ≤ R.slots) (k : ∀ T' h' a, Stand p l e R s m args below meth c T' locs (cells + 1) (slots + n) → T'.heap = h' → a = h.size → Ext h h' → Exa Z h' a C → (∀ {O nm d : String} {ty : FieldType}, Laid Z a0 C O nm d → parseFieldDescriptor d = some ty → Fld Z h' a O nm d (defaultValue ty)) → EndG p e below Fe Q (T'.setTop (mkF m q Ls (.ref a :: rest)))) : EndG p e below Fe Q (T.setTop (mkF m pc Ls (rest))) := by
  subst hq; obtain ⟨T', h', X', e', E', A', D', -, st⟩ := newO X hx hZ hown w0 wi wz eT (g := (mkF m pc Ls (rest))) rfl hd hc hl
  exact (k T' h' _ X' e' rfl E' A' D').st st
theorem k_cast (X : Stand p l e R s m args below meth c T locs cells slots) (hx : p.tables.exec = Jvm.exec) (hZ : Z.Warmed39 s.vm) {own K : String} {index : Nat} (hown : s.vm.findClass own = some m.cls) (w0 : (Cond.classLink own index K).before a0 Z = true) (eT : T.heap = h) {a : Addr} (hq : pc + 3 = q) (hd : decode c.code pc = .ok (.checkcast index, 3)) (F : Ins Z h a K true) (k : ∀ T', Stand p l e R s m args below meth c T' locs cells slots → T'.heap = h → EndG p e below Fe Q (T'.setTop (mkF m q Ls (.ref a :: rest)))) : EndG p e below Fe Q (T.setTop (mkF m pc Ls (.ref a :: rest))) := by
  subst hq; obtain ⟨T', X', e', st⟩ := castY X hx hZ hown w0 eT F (g := (mkF m pc Ls (.ref a :: rest))) rfl rfl hd
  exact (k T' X' e').st st
theorem k_instY (X : Stand p l e R s m args below meth c T locs cells slots) (hx : p.tables.exec = Jvm.exec) (hZ : Z.Warmed39 s.vm) {own K : String} {index : Nat} (hown : s.vm.findClass own = some m.cls) (w0 : (Cond.classLink own index K).before a0 Z = true) (eT : T.heap = h) {a : Addr} (hq : pc + 3 = q) (hd : decode c.code pc = .ok (.instanceof index, 3)) (F : Ins Z h a K true) (k : ∀ T', Stand p l e R s m args below meth c T' locs cells slots → T'.heap = h → EndG p e below Fe Q (T'.setTop (mkF m q Ls (.int 1 :: rest)))) : EndG p e below Fe Q (T.setTop (mkF m pc Ls (.ref a :: rest))) := by
  subst hq; obtain ⟨T', X', e', st⟩ := instY X hx hZ hown w0 eT F (g := (mkF m pc Ls (.ref a :: rest))) rfl rfl hd
  exact (k T' X' e').st st
theorem k_instNull (X : Stand p l e R s m args below meth c T locs cells slots) (hx : p.tables.exec = Jvm.exec) {index : Nat} (hq : pc + 3 = q) (hd : decode c.code pc = .ok (.instanceof index, 3)) (k : EndG p e below Fe Q (T.setTop (mkF m q Ls (.int 0 :: rest)))) : EndG p e below Fe Q (T.setTop (mkF m pc Ls (.null :: rest))) := by
  subst hq; exact k.st fun t w => X.instanceofNull hx (g := (mkF m pc Ls (.null :: rest))) rfl rfl hd t w
theorem k_instNo (X : Stand p l e R s m args below meth c T locs cells slots) (hx : p.tables.exec = Jvm.exec) (hZ : Z.Warmed39 s.vm) {own K C : String} {index : Nat} (hown : s.vm.findClass own = some m.cls) (w0 : (Cond.classLink own index K).before a0 Z = true) (eT : T.heap = h) {a : Addr} (hq : pc + 3 = q) (hd : decode c.code pc = .ok (.instanceof index, 3)) (E : Exa Z h a C) (F : ∃ c t, Z.vm.findClass C = some c ∧ Z.vm.findClass K = some t ∧ Z.vm.assignable c t = false) (k : ∀ T', Stand p l e R s m args below meth c T' locs cells slots → T'.heap = h → EndG p e below Fe Q (T'.setTop (mkF m q Ls (.int 0 :: rest)))) : EndG p e below Fe Q (T.setTop (mkF m pc Ls (.ref a :: rest))) := by
  subst hq; obtain ⟨T', X', e', st⟩ := instNo X hx hZ hown w0 eT E F (g := (mkF m pc Ls (.ref a :: rest))) rfl rfl hd
  exact (k T' X' e').st st
theorem k_initO (X : Stand p l e R s m args below meth c T locs cells slots) (hx : p.tables.exec = Jvm.exec) (hZ : Z.Warmed39 s.vm) {own : String} {index : Nat} (hown : s.vm.findClass own = some m.cls) (w1 : (Cond.methodLink own index Lib.objectInit).before a0 Z = true) (w2 : (Cond.instanceMethod Lib.objectInit).before a0 Z = true) (w3 : (Cond.code Lib.objectInit ⟨#[0xb1]⟩ 1 none).before a0 Z = true) (eT : T.heap = h) {a : Addr} (hq : pc + 3 = q) (hd : decode c.code pc = .ok (.invokespecial index, 3)) (hls : Ls.size = c.maxLocals) (hf : 1 ≤ R.frames) (W : Nat) (hW : 2 * 0 + (rest.map fun v => v.category).sum ≤ W) (hl : W + 12 ≤ R.locals) (k : ∀ T', Stand p l e R s m args below meth c T' locs cells slots → T'.heap = h → EndG p e below Fe Q (T'.setTop (mkF m q Ls (rest)))) : EndG p e below Fe Q (T.setTop (mkF m pc Ls (.ref a :: rest))) := by
  subst hq; obtain ⟨T', X', e', st⟩ := initO X hx hZ hown w1 w2 w3 eT (g := (mkF m pc Ls (.ref a :: rest))) rfl hls rfl hd hf (W := W) hW hl
  exact (k T' X' e').st st
end Steps
/-- the array at a has n places; the place t holds v t -/
def Ary (Z : State) (h : Heap) (a : Addr) (ty : FieldType) (n : Nat) (v : Nat → Value) : Prop := ∃ c : Cell, Arr Z h a c ty ∧ c.slots.size = n ∧ n < 2 ^ 31 ∧ ∀ t, t < n → c.slots[t]? = some (v t)
/-- g, but x at i -/
def upd {α : Type} (g : Nat → α) (i : Nat) (x : α) : Nat → α := fun t => if t = i then x else g t
theorem upd_same {α : Type} (g : Nat → α) (i : Nat) (x : α) : upd g i x i = x := if_pos rfl
theorem upd_other {α : Type} (g : Nat → α) {i t : Nat} (x : α) (q : t ≠ i) : upd g i x t = g t := if_neg q
section Arys
variable {Z : State} {h h' : Heap} {a b : Addr} {ty : FieldType} {n : Nat} {v w : Nat → Value} {sl : Nat} {x : Value} {ws : List Addr}
theorem Ary.lt (F : Ary Z h a ty n v) : a < h.size := by obtain ⟨c, A, -⟩ := F; exact A.lt
theorem Ary.ext (F : Ary Z h a ty n v) (E : Ext h h') : Ary Z h' a ty n v := by obtain ⟨c, A, r⟩ := F; exact ⟨c, A.ext E, r⟩
theorem Ary.other (F : Ary Z h b ty n v) (W : Wr h h' a sl x) (q : b ≠ a) : Ary Z h' b ty n v := by obtain ⟨c, A, r⟩ := F; exact ⟨c, A.other W q, r⟩
theorem Ary.keep (F : Ary Z h a ty n v) (K : Keep h h' ws) (q : a ∉ ws) : Ary Z h' a ty n v := by obtain ⟨c, A, r⟩ := F; exact ⟨c, ⟨K.2.1 a c A.1 q, A.2⟩, r⟩
theorem Ary.same (F : Ary Z h a ty n v) (W : Wr h h' a sl x) : Ary Z h' a ty n (fun t => if t = sl then x else v t) := by
  obtain ⟨c, A, S, B, H⟩ := F
  refine ⟨_, A.same W, by rw [sz_set, S], B, fun t ht => ?_⟩
  by_cases q : t = sl
  · subst q; simp [Cell.setSlot, S, ht]
  · simp only [if_neg q, Cell.setSlot]; rw [Array.getElem?_setIfInBounds_ne (Ne.symm q)]; exact H t ht
theorem Ary.congr (F : Ary Z h a ty n v) (q : ∀ t, t < n → v t = w t) : Ary Z h a ty n w := by obtain ⟨c, A, S, B, H⟩ := F; exact ⟨c, A, S, B, fun t ht => by rw [H t ht, q t ht]⟩
theorem Ary.new {k : ClassId} {z : Int32} (A : Arr Z h a (newA k ty z) ty) (q : ¬ z < 0) (hn : z.toNatClampNeg = n) : Ary Z h a ty n (fun _ => defaultValue ty) := by
  subst hn; exact ⟨_, A, sz_new _ _ _, (back32 q).2, fun t ht => by simp [newA, ht]⟩
theorem Keep.of_ext (E : Ext h h') : Keep h h' [] := (Keep.refl h []).ext E
def Cls (h : Heap) (a : Addr) (k : ClassId) : Prop := ∃ c : Cell, h[a]? = some c ∧ c.cls = k
theorem Cls.lt {k : ClassId} (F : Cls h a k) : a < h.size := by obtain ⟨c, h1, -⟩ := F; exact (Array.getElem?_eq_some_iff.mp h1).1
theorem Cls.keep {k : ClassId} (F : Cls h a k) (K : Keep h h' ws) : Cls h' a k := by obtain ⟨c, h1, h2⟩ := F; obtain ⟨c', q1, q2, -⟩ := K.2.2 _ _ h1; exact ⟨c', q1, q2.trans h2⟩
theorem Sto.ofA {k : ClassId} {C : String} {y : Addr} (A : Ary Z h a ty n v) (q : Cls h a k) (O : Ovr Z k C) (I : Ins Z h y C true) : Sto Z h a (.ref y) := by
  obtain ⟨c, A, r⟩ := A; obtain ⟨c', q1, q2⟩ := q; cases A.1.symm.trans q1; exact Sto.of A (q2 ▸ O) I
end Arys
theorem acmp_eq_t {a b : Addr} (h : a = b) : XT.acmp .eq (.ref a) (.ref b) = true := by subst h; simp [XT.acmp]
theorem acmp_eq_f {a b : Addr} (h : ¬ a = b) : XT.acmp .eq (.ref a) (.ref b) = false := by simp [XT.acmp, h]
theorem acmp_ne_t {a b : Addr} (h : ¬ a = b) : XT.acmp .ne (.ref a) (.ref b) = true := by simp [XT.acmp, h]
theorem acmp_ne_f {a b : Addr} (h : a = b) : XT.acmp .ne (.ref a) (.ref b) = false := by subst h; simp [XT.acmp]
/-- j names the place i -/
def Ix (j : Int32) (i : Nat) : Prop := ¬ j < 0 ∧ j.toNatClampNeg = i
theorem Ix.in {j : Int32} {i n : Nat} {c : Cell} (q : Ix j i) (S : c.slots.size = n) (hi : i < n) : ¬ (j < 0 ∨ c.slots.size ≤ j.toNatClampNeg) := fun o => o.elim q.1 fun o => by rw [S, q.2] at o; omega
theorem Ix.of {j : Int32} {i : Nat} (q : j.toInt = i) : Ix j i := by
  have h0 : ¬ j < 0 := by rw [Int32.lt_iff_toInt_lt, show (0 : Int32).toInt = 0 from by decide]; omega
  refine ⟨h0, ?_⟩
  have := nat_of h0; omega
theorem Ix.int {j : Int32} {i : Nat} (q : Ix j i) : j.toInt = i := by have := nat_of q.1; rw [q.2] at this; exact this
section Steps
variable {p : Program} {l : Launch} {e : Env} {R : Room} {s : State} {m : MethodId} {args : Array Value} {below : List Frame} {meth : Method} {c : Code} {T : State} {locs : List Loc} {cells slots : Nat} {Fe : Outcome → State → List Loc → Prop} {Q : Option Value → Heap → List Loc → Prop} {cl sl : Nat} {pc q : Nat} {Ls : Array Slot} {rest : List Value}
variable {Z : State} {a0 : Array Value} {h : Heap}
theorem k_arR (X : Stand p l e R s m args below meth c T locs cells slots) (hx : p.tables.exec = Jvm.exec) (hZ : Z.Warmed39 s.vm) (eT : T.heap = h) {a : Addr} {ty : FieldType} {n : Nat} {v : Nat → Value} {j : Int32} {x : Value} (i : Nat) (hq : pc + 1 = q) (hd : decode c.code pc = .ok (.aaload, 1)) (A : Ary Z h a ty n v) (hty : ty.isReference = true) (hj : Ix j i) (hi : i < n) (hv : v i = x) (k : EndG p e below Fe Q (T.setTop (mkF m q Ls (x :: rest)))) : EndG p e below Fe Q (T.setTop (mkF m pc Ls (.int j :: .ref a :: rest))) := by
  obtain ⟨ce, A, S, B, H⟩ := A
  subst hq hv; exact k.st fun t w => X.aaload hx (j := j) (v := v i) (by rw [eT]; exact A.1) (State.isArrayOf_alike hZ.alike A.2.1) hty A.2.2 (hj.in S hi) (by rw [hj.2]; exact H i hi) (g := (mkF m pc Ls (.int j :: .ref a :: rest))) rfl rfl hd t w
theorem k_callS (X : Stand p l e R s m args below meth c T locs cells slots) (hx : p.tables.exec = Jvm.exec) (hZ : Z.Warmed39 s.vm) {own : String} {index : Nat} {y : MethodName} {bytes : ByteArray} {maxL : Nat} {ret : Option FieldType} {rm : Room} {as : List Value} {Qc : Option Value → Heap → List Loc → Prop} (hown : s.vm.findClass own = some m.cls) (w1 : (Cond.methodLink own index y).before a0 Z = true) (w2 : (Cond.static y).before a0 Z = true) (w3 : (Cond.initialized y.cls).before a0 Z = true) (w4 : (Cond.code y bytes maxL ret).before a0 Z = true) (hy : y.cls ≠ "java/lang/invoke/MethodHandle" ∧ y.cls ≠ "java/lang/invoke/VarHandle") (W : Nat) (eT : T.heap = h) (hM : Con l Z y bytes maxL ret [] rm (as).toArray h Qc) (hf : rm.frames + 1 ≤ R.frames) (hl : W + (maxL + 11) + rm.locals ≤ R.locals) (hcl : cells + rm.cells ≤ R.cells) (hsl : slots + rm.slots ≤ R.slots) (hls : Ls.size = c.maxLocals) {ps : List FieldType} {rt : Option FieldType} (hpd : parseMethodDescriptor y.desc = some ⟨ps, rt⟩) (hlen : as.length = ps.length) (hW : 2 * 0 + (rest.map fun v => v.category).sum ≤ W) (hq : pc + 3 = q) (hd : decode c.code pc = .ok (.invokestatic index, 3)) (k : ∀ v T' L, Stand p l e R s m args below meth c T' (locs ++ L) (cells + rm.cells) (slots + rm.slots) → Qc v T'.heap L → EndG p e below Fe Q (T'.setTop (mkF m q Ls (v.toList ++ rest)))) : EndG p e below Fe Q (T.setTop (mkF m pc Ls (as.reverse ++ rest))) := by
  subst hq
  obtain ⟨v, _, ⟨T', L', k', n'⟩, -, X', ⟨Lc, hQ, l', y', z'⟩, st⟩ := Jvm.LawKit.callS X hx (y := y) hown (mvT hZ w1) (mvT hZ w2) (mvT hZ w3) (mvT hZ w4) hy (backOf (W := W) hM hZ w4 w3 hf hl) (g := (mkF m pc Ls (as.reverse ++ rest))) rfl hls (argsL := as) (rest := rest) (lenOf hpd hlen) rfl hW hd (fun _ _ => ⟨rfl, eT, hcl, hsl⟩)
  dsimp only [Pt.U, Pt.locs, Pt.cells, Pt.slots] at X' l' y' z' st hQ
  subst l' y' z'
  exact (k v T' Lc X' hQ).st st
theorem k_callI (X : Stand p l e R s m args below meth c T locs cells slots) (hx : p.tables.exec = Jvm.exec) (hZ : Z.Warmed39 s.vm) {own : String} {index : Nat} {y : MethodName} {bytes : ByteArray} {maxL : Nat} {rm : Room} {as : List Value} {Qc : Option Value → Heap → List Loc → Prop} {a : Addr} (hown : s.vm.findClass own = some m.cls) (hy1 : y.name = "<init>") (w1 : (Cond.methodLink own index y).before a0 Z = true) (w2 : (Cond.instanceMethod y).before a0 Z = true) (w3 : (Cond.initialized y.cls).before a0 Z = true) (w4 : (Cond.code y bytes maxL none).before a0 Z = true) (hy : y.cls ≠ "java/lang/invoke/MethodHandle" ∧ y.cls ≠ "java/lang/invoke/VarHandle") (W : Nat) (eT : T.heap = h) (hM : Con l Z y bytes maxL none [] rm (.ref a :: as).toArray h Qc) (hf : rm.frames + 1 ≤ R.frames) (hl : W + (maxL + 11) + rm.locals ≤ R.locals) (hcl : cells + rm.cells ≤ R.cells) (hsl : slots + rm.slots ≤ R.slots) (hls : Ls.size = c.maxLocals) {ps : List FieldType} {rt : Option FieldType} (hpd : parseMethodDescriptor y.desc = some ⟨ps, rt⟩) (hlen : as.length = ps.length) (hW : 2 * 0 + (rest.map fun v => v.category).sum ≤ W) (hq : pc + 3 = q) (hd : decode c.code pc = .ok (.invokespecial index, 3)) (k : ∀ v T' L, Stand p l e R s m args below meth c T' (locs ++ L) (cells + rm.cells) (slots + rm.slots) → Qc v T'.heap L → EndG p e below Fe Q (T'.setTop (mkF m q Ls (v.toList ++ rest)))) : EndG p e below Fe Q (T.setTop (mkF m pc Ls (as.reverse ++ .ref a :: rest))) := by
  subst hq
  obtain ⟨v, _, ⟨T', L', k', n'⟩, -, X', ⟨Lc, hQ, l', y', z'⟩, st⟩ := X.specialBack hx (y := y) hy1 hown (mvT hZ w1) (mvT hZ w2) (mvT hZ w4) hy (backOf (W := W) hM hZ w4 w3 hf hl) (g := (mkF m pc Ls (as.reverse ++ .ref a :: rest))) rfl hls (Steps.refl _) (a := a) (argsL := as) (rest := rest) (lenOf hpd hlen) rfl hW hd (fun _ _ => ⟨rfl, eT, hcl, hsl⟩)
  dsimp only [Pt.U, Pt.locs, Pt.cells, Pt.slots] at X' l' y' z' st hQ
  subst l' y' z'
  exact (k v T' Lc X' hQ).tr st
theorem k_callV (X : Stand p l e R s m args below meth c T locs cells slots) (hx : p.tables.exec = Jvm.exec) (hZ : Z.Warmed39 s.vm) {own : String} {index : Nat} {y : MethodName} {bytes : ByteArray} {maxL : Nat} {ret : Option FieldType} {rm : Room} {as : List Value} {Qc : Option Value → Heap → List Loc → Prop} {a : Addr} {C : String} {z : MethodName} (hown : s.vm.findClass own = some m.cls) (w1 : (Cond.methodLink own index y).before a0 Z = true) (w2 : (Cond.declares y).before a0 Z = true) (hnf : NotFace s y) (w3 : (Cond.selects C y z).before a0 Z = true) (w4 : (Cond.instanceMethod z).before a0 Z = true) (w5 : (Cond.code z bytes maxL ret).before a0 Z = true) (w6 : (Cond.initialized z.cls).before a0 Z = true) (hy : y.cls ≠ "java/lang/invoke/MethodHandle" ∧ y.cls ≠ "java/lang/invoke/VarHandle") (Ex : Exa Z h a C) (W : Nat) (eT : T.heap = h) (hM : Con l Z z bytes maxL ret [] rm (.ref a :: as).toArray h Qc) (hf : rm.frames + 1 ≤ R.frames) (hl : W + (maxL + 11) + rm.locals ≤ R.locals) (hcl : cells + rm.cells ≤ R.cells) (hsl : slots + rm.slots ≤ R.slots) (hls : Ls.size = c.maxLocals) {ps : List FieldType} {rt : Option FieldType} (hpd : parseMethodDescriptor y.desc = some ⟨ps, rt⟩) (hlen : as.length = ps.length) (hW : 2 * 0 + (rest.map fun v => v.category).sum ≤ W) (hq : pc + 3 = q) (hd : decode c.code pc = .ok (.invokevirtual index, 3)) (k : ∀ v T' L, Stand p l e R s m args below meth c T' (locs ++ L) (cells + rm.cells) (slots + rm.slots) → Qc v T'.heap L → EndG p e below Fe Q (T'.setTop (mkF m q Ls (v.toList ++ rest)))) : EndG p e below Fe Q (T.setTop (mkF m pc Ls (as.reverse ++ .ref a :: rest))) := by
  subst hq
  obtain ⟨cB, kB, q1, q2, q3⟩ := isOf hZ eT Ex
  obtain ⟨v, _, ⟨T', L', k', n'⟩, -, X', ⟨Lc, hQ, l', y', z'⟩, st⟩ := X.virtualBack hx (y := y) (z := z) hown (mvT hZ w1) (mvT hZ w2) hnf (mvT hZ w3) (mvT hZ w4) hy (backOf (W := W) hM hZ w5 w6 hf hl) q1 q3 (g := (mkF m pc Ls (as.reverse ++ .ref a :: rest))) rfl hls (Steps.refl _) (argsL := as) (rest := rest) (lenOf hpd hlen) rfl hW hd (fun _ _ => ⟨rfl, eT, hcl, hsl⟩)
  dsimp only [Pt.U, Pt.locs, Pt.cells, Pt.slots] at X' l' y' z' st hQ
  subst l' y' z'
  exact (k v T' Lc X' hQ).tr st
end Steps
end Jvm.OwnK
namespace Jvm.Pilot.@@N@@
open Jvm Jvm.ClassFile Sem Op Lib Jvm.Free Jvm.Stand Jvm.LawKit Jvm.RoadKit Jvm.OwnK Bundle Jvm.Pilot.@@N@@.Jvm.D
theorem pn_0 : plainName "com/example/slotwright/slotwright/Job" = true := by first | (simp [plainName, overriddenIn]; done) | decide +kernel
theorem pn_1 : plainName "java/lang/Number" = true := by first | (simp [plainName, overriddenIn]; done) | decide +kernel
theorem pn_2 : plainName "java/lang/Long" = true := by first | (simp [plainName, overriddenIn]; done) | decide +kernel
theorem pn_3 : plainName "com/example/slotwright/slotwright/JobEqualsPinLaw" = true := by first | (simp [plainName, overriddenIn]; done) | decide +kernel
theorem pd_0 : parseMethodDescriptor "()V" = some ⟨[], none⟩ := by decide +kernel
theorem pd_1 : parseMethodDescriptor "(J)V" = some ⟨[.long], none⟩ := by decide +kernel
theorem pd_2 : parseMethodDescriptor "(IJJJJJJJ)V" = some ⟨[.int, .long, .long, .long, .long, .long, .long, .long], none⟩ := by decide +kernel
theorem pd_3 : parseMethodDescriptor "(Ljava/lang/Object;)Z" = some ⟨[(.object "java/lang/Object")], some .boolean⟩ := by decide +kernel
theorem pd_4 : parseMethodDescriptor "(J)Ljava/lang/Long;" = some ⟨[.long], some (.object "java/lang/Long")⟩ := by decide +kernel
theorem d1_0 : decode prog_69_method_1_code 0 = .ok (.aload_n 0, 1) := by decide +kernel
theorem d1_1 : decode prog_69_method_1_code 1 = .ok (.invokespecial 1, 3) := by decide +kernel
theorem d1_4 : decode prog_69_method_1_code 4 = .ok (.aload_n 0, 1) := by decide +kernel
theorem d1_5 : decode prog_69_method_1_code 5 = .ok (.iload_n 1, 1) := by decide +kernel
theorem d1_6 : decode prog_69_method_1_code 6 = .ok (.putfield 7, 3) := by decide +kernel
theorem d1_9 : decode prog_69_method_1_code 9 = .ok (.aload_n 0, 1) := by decide +kernel
theorem d1_10 : decode prog_69_method_1_code 10 = .ok (.lload_n 2, 1) := by decide +kernel
theorem d1_11 : decode prog_69_method_1_code 11 = .ok (.putfield 13, 3) := by decide +kernel
theorem d1_14 : decode prog_69_method_1_code 14 = .ok (.aload_n 0, 1) := by decide +kernel
theorem d1_15 : decode prog_69_method_1_code 15 = .ok (.lload 4, 2) := by decide +kernel
theorem d1_17 : decode prog_69_method_1_code 17 = .ok (.putfield 17, 3) := by decide +kernel
theorem d1_20 : decode prog_69_method_1_code 20 = .ok (.aload_n 0, 1) := by decide +kernel
theorem d1_21 : decode prog_69_method_1_code 21 = .ok (.lload 6, 2) := by decide +kernel
theorem d1_23 : decode prog_69_method_1_code 23 = .ok (.putfield 20, 3) := by decide +kernel
theorem d1_26 : decode prog_69_method_1_code 26 = .ok (.aload_n 0, 1) := by decide +kernel
theorem d1_27 : decode prog_69_method_1_code 27 = .ok (.lload 8, 2) := by decide +kernel
theorem d1_29 : decode prog_69_method_1_code 29 = .ok (.putfield 23, 3) := by decide +kernel
theorem d1_32 : decode prog_69_method_1_code 32 = .ok (.aload_n 0, 1) := by decide +kernel
theorem d1_33 : decode prog_69_method_1_code 33 = .ok (.lload 10, 2) := by decide +kernel
theorem d1_35 : decode prog_69_method_1_code 35 = .ok (.putfield 26, 3) := by decide +kernel
theorem d1_38 : decode prog_69_method_1_code 38 = .ok (.aload_n 0, 1) := by decide +kernel
theorem d1_39 : decode prog_69_method_1_code 39 = .ok (.lload 12, 2) := by decide +kernel
theorem d1_41 : decode prog_69_method_1_code 41 = .ok (.putfield 29, 3) := by decide +kernel
theorem d1_44 : decode prog_69_method_1_code 44 = .ok (.aload_n 0, 1) := by decide +kernel
theorem d1_45 : decode prog_69_method_1_code 45 = .ok (.lload 14, 2) := by decide +kernel
theorem d1_47 : decode prog_69_method_1_code 47 = .ok (.putfield 32, 3) := by decide +kernel
theorem d1_50 : decode prog_69_method_1_code 50 = .ok (.return_, 1) := by decide +kernel
theorem ef_1 (m : MethodId) (x0 : Addr) (x1 : Int32) (x2 : Int64) (x3 : Int64) (x4 : Int64) (x5 : Int64) (x6 : Int64) (x7 : Int64) (x8 : Int64) : entryFrame m #[(.ref x0), (.int x1), (.long x2), (.long x3), (.long x4), (.long x5), (.long x6), (.long x7), (.long x8)] 16 = mkF m 0 #[.val (.ref x0), .val (.int x1), .val (.long x2), .second, .val (.long x3), .second, .val (.long x4), .second, .val (.long x5), .second, .val (.long x6), .second, .val (.long x7), .second, .val (.long x8), .second] [] := by first | (simp [entryFrame, mkF, argsToLocals, Value.category]; done) | rfl
set_option maxRecDepth 65536 in
set_option maxHeartbeats 40000000 in
theorem rm1 (l : Launch) (Z : State) (a0 : Array Value) (hw : ∀ d ∈ tables_1, d.before a0 Z = true) (x0 : Addr) (x1 : Int32) (x2 : Int64) (x3 : Int64) (x4 : Int64) (x5 : Int64) (x6 : Int64) (x7 : Int64) (x8 : Int64) (h0 : Heap) (n0 : Nat) (Z0 : n0 ≤ h0.size) (ga : n0 ≤ x0) (E0 : Exa Z h0 x0 "com/example/slotwright/slotwright/Job") (F_index : Fld Z h0 x0 "com/example/slotwright/slotwright/Job" "index" "I" (.int (0 : Int32))) (F_line : Fld Z h0 x0 "com/example/slotwright/slotwright/Job" "line" "J" (.long (0 : Int64))) (F_number : Fld Z h0 x0 "com/example/slotwright/slotwright/Job" "number" "J" (.long (0 : Int64))) (F_submit : Fld Z h0 x0 "com/example/slotwright/slotwright/Job" "submit" "J" (.long (0 : Int64))) (F_runtime : Fld Z h0 x0 "com/example/slotwright/slotwright/Job" "runtime" "J" (.long (0 : Int64))) (F_processors : Fld Z h0 x0 "com/example/slotwright/slotwright/Job" "processors" "J" (.long (0 : Int64))) (F_estimate : Fld Z h0 x0 "com/example/slotwright/slotwright/Job" "estimate" "J" (.long (0 : Int64))) (F_partition : Fld Z h0 x0 "com/example/slotwright/slotwright/Job" "partition" "J" (.long (0 : Int64))) :
    Con l Z (⟨"com/example/slotwright/slotwright/Job", "<init>", "(IJJJJJJJ)V"⟩ : MethodName) prog_69_method_1_code 16 none [] ({ frames := 1, cells := 0, slots := 0, locals := 12 } : Room) #[(.ref x0), (.int x1), (.long x2), (.long x3), (.long x4), (.long x5), (.long x6), (.long x7), (.long x8)] h0 (fun v h L => v = none ∧ Fr n0 L ∧ Keep h0 h [x0] ∧ Fld Z h x0 "com/example/slotwright/slotwright/Job" "index" "I" (.int x1) ∧ Fld Z h x0 "com/example/slotwright/slotwright/Job" "line" "J" (.long x2) ∧ Fld Z h x0 "com/example/slotwright/slotwright/Job" "number" "J" (.long x3) ∧ Fld Z h x0 "com/example/slotwright/slotwright/Job" "submit" "J" (.long x4) ∧ Fld Z h x0 "com/example/slotwright/slotwright/Job" "runtime" "J" (.long x5) ∧ Fld Z h x0 "com/example/slotwright/slotwright/Job" "processors" "J" (.long x6) ∧ Fld Z h x0 "com/example/slotwright/slotwright/Job" "estimate" "J" (.long x7) ∧ Fld Z h x0 "com/example/slotwright/slotwright/Job" "partition" "J" (.long x8)) := by
  refine Con.of (plainFor_of_name pn_0) ?_
  intro p e s m below meth c s₁ X0 hx hby hml hown hnm hret hlk hZ e0
  refine End.cast ?_ (ef_1 m x0 x1 x2 x3 x4 x5 x6 x7 x8)
  have N0 := Fr.nil n0
  refine k_aloadN X0 hx (q := 1) rfl (hb hby d1_0) rfl rfl ?_
  refine k_initO X0 hx hZ hown (hw _ (List.mem_of_getElem? (i := 7) rfl)) (hw _ (List.mem_of_getElem? (i := 8) rfl)) (hw _ (List.mem_of_getElem? (i := 9) rfl)) e0 (q := 4) rfl (hb hby d1_1) (by rw [hml]; rfl) (by decide) 0 (by first | exact Nat.le_refl _ | simp [Value.category]) (by decide) ?_
  intro T1 X1 e1
  refine k_aloadN X1 hx (q := 5) rfl (hb hby d1_4) rfl rfl ?_
  refine k_iloadN X1 hx (q := 6) rfl (hb hby d1_5) rfl ?_
  refine k_putF X1 hx hZ (host := "") hown (Or.inl (hw _ (List.mem_of_getElem? (i := 10) rfl))) Via.refl e1 (Or.inr ⟨(hw _ (List.mem_of_getElem? (i := 11) rfl)), rfl, hnm⟩) (hw _ (List.mem_of_getElem? (i := 2) rfl)) (ty := .int) (by decide) rfl rfl (q := 9) rfl (hb hby d1_6) F_index E0 ?_
  intro T2 h2 X2 e2 W2
  have K2 := Keep.of_wr W2
  have N2 := Fr.snoc X2 N0 ga
  have Fw2 := (F_index).same W2
  refine k_aloadN X2 hx (q := 10) rfl (hb hby d1_9) rfl rfl ?_
  refine k_lloadN X2 hx (q := 11) rfl (hb hby d1_10) rfl ?_
  have G3 := (F_line.other W2 (Or.inr (slot_ne (t := .long) (t' := .int) (Or.inr (hw _ (List.mem_of_getElem? (i := 13) rfl))) (Or.inr (hw _ (List.mem_of_getElem? (i := 11) rfl))) (by decide) (by decide) (by decide))))
  have G4 := (E0.keep K2)
  refine k_putF X2 hx hZ (host := "") hown (Or.inl (hw _ (List.mem_of_getElem? (i := 12) rfl))) Via.refl e2 (Or.inr ⟨(hw _ (List.mem_of_getElem? (i := 13) rfl)), rfl, hnm⟩) (hw _ (List.mem_of_getElem? (i := 2) rfl)) (ty := .long) (by decide) rfl rfl (q := 14) rfl (hb hby d1_11) G3 G4 ?_
  intro T5 h5 X5 e5 W5
  have K5 := Keep.of_wr W5
  have N5 := Fr.snoc X5 N2 ga
  have Fw5 := (G3).same W5
  refine k_aloadN X5 hx (q := 15) rfl (hb hby d1_14) rfl rfl ?_
  refine k_lload X5 hx (q := 17) rfl (hb hby d1_15) rfl ?_
  have G6 := ((F_number.other W2 (Or.inr (slot_ne (t := .long) (t' := .int) (Or.inr (hw _ (List.mem_of_getElem? (i := 15) rfl))) (Or.inr (hw _ (List.mem_of_getElem? (i := 11) rfl))) (by decide) (by decide) (by decide)))).other W5 (Or.inr (slot_ne (t := .long) (t' := .long) (Or.inr (hw _ (List.mem_of_getElem? (i := 15) rfl))) (Or.inr (hw _ (List.mem_of_getElem? (i := 13) rfl))) (by decide) (by decide) (by decide))))
  have G7 := (G4.keep K5)
  refine k_putF X5 hx hZ (host := "") hown (Or.inl (hw _ (List.mem_of_getElem? (i := 14) rfl))) Via.refl e5 (Or.inr ⟨(hw _ (List.mem_of_getElem? (i := 15) rfl)), rfl, hnm⟩) (hw _ (List.mem_of_getElem? (i := 2) rfl)) (ty := .long) (by decide) rfl rfl (q := 20) rfl (hb hby d1_17) G6 G7 ?_
  intro T8 h8 X8 e8 W8
  have K8 := Keep.of_wr W8
  have N8 := Fr.snoc X8 N5 ga
  have Fw8 := (G6).same W8
  refine k_aloadN X8 hx (q := 21) rfl (hb hby d1_20) rfl rfl ?_
  refine k_lload X8 hx (q := 23) rfl (hb hby d1_21) rfl ?_
  have G9 := (((F_submit.other W2 (Or.inr (slot_ne (t := .long) (t' := .int) (Or.inr (hw _ (List.mem_of_getElem? (i := 17) rfl))) (Or.inr (hw _ (List.mem_of_getElem? (i := 11) rfl))) (by decide) (by decide) (by decide)))).other W5 (Or.inr (slot_ne (t := .long) (t' := .long) (Or.inr (hw _ (List.mem_of_getElem? (i := 17) rfl))) (Or.inr (hw _ (List.mem_of_getElem? (i := 13) rfl))) (by decide) (by decide) (by decide)))).other W8 (Or.inr (slot_ne (t := .long) (t' := .long) (Or.inr (hw _ (List.mem_of_getElem? (i := 17) rfl))) (Or.inr (hw _ (List.mem_of_getElem? (i := 15) rfl))) (by decide) (by decide) (by decide))))
  have G10 := (G7.keep K8)
  refine k_putF X8 hx hZ (host := "") hown (Or.inl (hw _ (List.mem_of_getElem? (i := 16) rfl))) Via.refl e8 (Or.inr ⟨(hw _ (List.mem_of_getElem? (i := 17) rfl)), rfl, hnm⟩) (hw _ (List.mem_of_getElem? (i := 2) rfl)) (ty := .long) (by decide) rfl rfl (q := 26) rfl (hb hby d1_23) G9 G10 ?_
  intro T11 h11 X11 e11 W11
  have K11 := Keep.of_wr W11
  have N11 := Fr.snoc X11 N8 ga
  have Fw11 := (G9).same W11
  refine k_aloadN X11 hx (q := 27) rfl (hb hby d1_26) rfl rfl ?_
  refine k_lload X11 hx (q := 29) rfl (hb hby d1_27) rfl ?_
  have G12 := ((((F_runtime.other W2 (Or.inr (slot_ne (t := .long) (t' := .int) (Or.inr (hw _ (List.mem_of_getElem? (i := 19) rfl))) (Or.inr (hw _ (List.mem_of_getElem? (i := 11) rfl))) (by decide) (by decide) (by decide)))).other W5 (Or.inr (slot_ne (t := .long) (t' := .long) (Or.inr (hw _ (List.mem_of_getElem? (i := 19) rfl))) (Or.inr (hw _ (List.mem_of_getElem? (i := 13) rfl))) (by decide) (by decide) (by decide)))).other W8 (Or.inr (slot_ne (t := .long) (t' := .long) (Or.inr (hw _ (List.mem_of_getElem? (i := 19) rfl))) (Or.inr (hw _ (List.mem_of_getElem? (i := 15) rfl))) (by decide) (by decide) (by decide)))).other W11 (Or.inr (slot_ne (t := .long) (t' := .long) (Or.inr (hw _ (List.mem_of_getElem? (i := 19) rfl))) (Or.inr (hw _ (List.mem_of_getElem? (i := 17) rfl))) (by decide) (by decide) (by decide))))
  have G13 := (G10.keep K11)
  refine k_putF X11 hx hZ (host := "") hown (Or.inl (hw _ (List.mem_of_getElem? (i := 18) rfl))) Via.refl e11 (Or.inr ⟨(hw _ (List.mem_of_getElem? (i := 19) rfl)), rfl, hnm⟩) (hw _ (List.mem_of_getElem? (i := 2) rfl)) (ty := .long) (by decide) rfl rfl (q := 32) rfl (hb hby d1_29) G12 G13 ?_
  intro T14 h14 X14 e14 W14
  have K14 := Keep.of_wr W14
  have N14 := Fr.snoc X14 N11 ga
  have Fw14 := (G12).same W14
  refine k_aloadN X14 hx (q := 33) rfl (hb hby d1_32) rfl rfl ?_
  refine k_lload X14 hx (q := 35) rfl (hb hby d1_33) rfl ?_
  have G15 := (((((F_processors.other W2 (Or.inr (slot_ne (t := .long) (t' := .int) (Or.inr (hw _ (List.mem_of_getElem? (i := 21) rfl))) (Or.inr (hw _ (List.mem_of_getElem? (i := 11) rfl))) (by decide) (by decide) (by decide)))).other W5 (Or.inr (slot_ne (t := .long) (t' := .long) (Or.inr (hw _ (List.mem_of_getElem? (i := 21) rfl))) (Or.inr (hw _ (List.mem_of_getElem? (i := 13) rfl))) (by decide) (by decide) (by decide)))).other W8 (Or.inr (slot_ne (t := .long) (t' := .long) (Or.inr (hw _ (List.mem_of_getElem? (i := 21) rfl))) (Or.inr (hw _ (List.mem_of_getElem? (i := 15) rfl))) (by decide) (by decide) (by decide)))).other W11 (Or.inr (slot_ne (t := .long) (t' := .long) (Or.inr (hw _ (List.mem_of_getElem? (i := 21) rfl))) (Or.inr (hw _ (List.mem_of_getElem? (i := 17) rfl))) (by decide) (by decide) (by decide)))).other W14 (Or.inr (slot_ne (t := .long) (t' := .long) (Or.inr (hw _ (List.mem_of_getElem? (i := 21) rfl))) (Or.inr (hw _ (List.mem_of_getElem? (i := 19) rfl))) (by decide) (by decide) (by decide))))
  have G16 := (G13.keep K14)
  refine k_putF X14 hx hZ (host := "") hown (Or.inl (hw _ (List.mem_of_getElem? (i := 20) rfl))) Via.refl e14 (Or.inr ⟨(hw _ (List.mem_of_getElem? (i := 21) rfl)), rfl, hnm⟩) (hw _ (List.mem_of_getElem? (i := 2) rfl)) (ty := .long) (by decide) rfl rfl (q := 38) rfl (hb hby d1_35) G15 G16 ?_
  intro T17 h17 X17 e17 W17
  have K17 := Keep.of_wr W17
  have N17 := Fr.snoc X17 N14 ga
  have Fw17 := (G15).same W17
  refine k_aloadN X17 hx (q := 39) rfl (hb hby d1_38) rfl rfl ?_
  refine k_lload X17 hx (q := 41) rfl (hb hby d1_39) rfl ?_
  have G18 := ((((((F_estimate.other W2 (Or.inr (slot_ne (t := .long) (t' := .int) (Or.inr (hw _ (List.mem_of_getElem? (i := 23) rfl))) (Or.inr (hw _ (List.mem_of_getElem? (i := 11) rfl))) (by decide) (by decide) (by decide)))).other W5 (Or.inr (slot_ne (t := .long) (t' := .long) (Or.inr (hw _ (List.mem_of_getElem? (i := 23) rfl))) (Or.inr (hw _ (List.mem_of_getElem? (i := 13) rfl))) (by decide) (by decide) (by decide)))).other W8 (Or.inr (slot_ne (t := .long) (t' := .long) (Or.inr (hw _ (List.mem_of_getElem? (i := 23) rfl))) (Or.inr (hw _ (List.mem_of_getElem? (i := 15) rfl))) (by decide) (by decide) (by decide)))).other W11 (Or.inr (slot_ne (t := .long) (t' := .long) (Or.inr (hw _ (List.mem_of_getElem? (i := 23) rfl))) (Or.inr (hw _ (List.mem_of_getElem? (i := 17) rfl))) (by decide) (by decide) (by decide)))).other W14 (Or.inr (slot_ne (t := .long) (t' := .long) (Or.inr (hw _ (List.mem_of_getElem? (i := 23) rfl))) (Or.inr (hw _ (List.mem_of_getElem? (i := 19) rfl))) (by decide) (by decide) (by decide)))).other W17 (Or.inr (slot_ne (t := .long) (t' := .long) (Or.inr (hw _ (List.mem_of_getElem? (i := 23) rfl))) (Or.inr (hw _ (List.mem_of_getElem? (i := 21) rfl))) (by decide) (by decide) (by decide))))
  have G19 := (G16.keep K17)
  refine k_putF X17 hx hZ (host := "") hown (Or.inl (hw _ (List.mem_of_getElem? (i := 22) rfl))) Via.refl e17 (Or.inr ⟨(hw _ (List.mem_of_getElem? (i := 23) rfl)), rfl, hnm⟩) (hw _ (List.mem_of_getElem? (i := 2) rfl)) (ty := .long) (by decide) rfl rfl (q := 44) rfl (hb hby d1_41) G18 G19 ?_
  intro T20 h20 X20 e20 W20
  have K20 := Keep.of_wr W20
  have N20 := Fr.snoc X20 N17 ga
  have Fw20 := (G18).same W20
  refine k_aloadN X20 hx (q := 45) rfl (hb hby d1_44) rfl rfl ?_
  refine k_lload X20 hx (q := 47) rfl (hb hby d1_45) rfl ?_
  have G21 := (((((((F_partition.other W2 (Or.inr (slot_ne (t := .long) (t' := .int) (Or.inr (hw _ (List.mem_of_getElem? (i := 25) rfl))) (Or.inr (hw _ (List.mem_of_getElem? (i := 11) rfl))) (by decide) (by decide) (by decide)))).other W5 (Or.inr (slot_ne (t := .long) (t' := .long) (Or.inr (hw _ (List.mem_of_getElem? (i := 25) rfl))) (Or.inr (hw _ (List.mem_of_getElem? (i := 13) rfl))) (by decide) (by decide) (by decide)))).other W8 (Or.inr (slot_ne (t := .long) (t' := .long) (Or.inr (hw _ (List.mem_of_getElem? (i := 25) rfl))) (Or.inr (hw _ (List.mem_of_getElem? (i := 15) rfl))) (by decide) (by decide) (by decide)))).other W11 (Or.inr (slot_ne (t := .long) (t' := .long) (Or.inr (hw _ (List.mem_of_getElem? (i := 25) rfl))) (Or.inr (hw _ (List.mem_of_getElem? (i := 17) rfl))) (by decide) (by decide) (by decide)))).other W14 (Or.inr (slot_ne (t := .long) (t' := .long) (Or.inr (hw _ (List.mem_of_getElem? (i := 25) rfl))) (Or.inr (hw _ (List.mem_of_getElem? (i := 19) rfl))) (by decide) (by decide) (by decide)))).other W17 (Or.inr (slot_ne (t := .long) (t' := .long) (Or.inr (hw _ (List.mem_of_getElem? (i := 25) rfl))) (Or.inr (hw _ (List.mem_of_getElem? (i := 21) rfl))) (by decide) (by decide) (by decide)))).other W20 (Or.inr (slot_ne (t := .long) (t' := .long) (Or.inr (hw _ (List.mem_of_getElem? (i := 25) rfl))) (Or.inr (hw _ (List.mem_of_getElem? (i := 23) rfl))) (by decide) (by decide) (by decide))))
  have G22 := (G19.keep K20)
  refine k_putF X20 hx hZ (host := "") hown (Or.inl (hw _ (List.mem_of_getElem? (i := 24) rfl))) Via.refl e20 (Or.inr ⟨(hw _ (List.mem_of_getElem? (i := 25) rfl)), rfl, hnm⟩) (hw _ (List.mem_of_getElem? (i := 2) rfl)) (ty := .long) (by decide) rfl rfl (q := 50) rfl (hb hby d1_47) G21 G22 ?_
  intro T23 h23 X23 e23 W23
  have K23 := Keep.of_wr W23
  have N23 := Fr.snoc X23 N20 ga
  have Fw23 := (G21).same W23
  have Kp24 : Keep h0 h2 [x0] := Keep.trans (Keep.refl h0 [x0]) K2 (allS (Or.inl (List.mem_of_getElem? (i := 0) rfl)) all0)
  have Kp25 : Keep h0 h5 [x0] := Keep.trans Kp24 K5 (allS (Or.inl (List.mem_of_getElem? (i := 0) rfl)) all0)
  have Kp26 : Keep h0 h8 [x0] := Keep.trans Kp25 K8 (allS (Or.inl (List.mem_of_getElem? (i := 0) rfl)) all0)
  have Kp27 : Keep h0 h11 [x0] := Keep.trans Kp26 K11 (allS (Or.inl (List.mem_of_getElem? (i := 0) rfl)) all0)
  have Kp28 : Keep h0 h14 [x0] := Keep.trans Kp27 K14 (allS (Or.inl (List.mem_of_getElem? (i := 0) rfl)) all0)
  have Kp29 : Keep h0 h17 [x0] := Keep.trans Kp28 K17 (allS (Or.inl (List.mem_of_getElem? (i := 0) rfl)) all0)
  have Kp30 : Keep h0 h20 [x0] := Keep.trans Kp29 K20 (allS (Or.inl (List.mem_of_getElem? (i := 0) rfl)) all0)
  have Kp31 : Keep h0 h23 [x0] := Keep.trans Kp30 K23 (allS (Or.inl (List.mem_of_getElem? (i := 0) rfl)) all0)
  have G32 := (((((((Fw2.other W5 (Or.inr (slot_ne (t := .int) (t' := .long) (Or.inr (hw _ (List.mem_of_getElem? (i := 11) rfl))) (Or.inr (hw _ (List.mem_of_getElem? (i := 13) rfl))) (by decide) (by decide) (by decide)))).other W8 (Or.inr (slot_ne (t := .int) (t' := .long) (Or.inr (hw _ (List.mem_of_getElem? (i := 11) rfl))) (Or.inr (hw _ (List.mem_of_getElem? (i := 15) rfl))) (by decide) (by decide) (by decide)))).other W11 (Or.inr (slot_ne (t := .int) (t' := .long) (Or.inr (hw _ (List.mem_of_getElem? (i := 11) rfl))) (Or.inr (hw _ (List.mem_of_getElem? (i := 17) rfl))) (by decide) (by decide) (by decide)))).other W14 (Or.inr (slot_ne (t := .int) (t' := .long) (Or.inr (hw _ (List.mem_of_getElem? (i := 11) rfl))) (Or.inr (hw _ (List.mem_of_getElem? (i := 19) rfl))) (by decide) (by decide) (by decide)))).other W17 (Or.inr (slot_ne (t := .int) (t' := .long) (Or.inr (hw _ (List.mem_of_getElem? (i := 11) rfl))) (Or.inr (hw _ (List.mem_of_getElem? (i := 21) rfl))) (by decide) (by decide) (by decide)))).other W20 (Or.inr (slot_ne (t := .int) (t' := .long) (Or.inr (hw _ (List.mem_of_getElem? (i := 11) rfl))) (Or.inr (hw _ (List.mem_of_getElem? (i := 23) rfl))) (by decide) (by decide) (by decide)))).other W23 (Or.inr (slot_ne (t := .int) (t' := .long) (Or.inr (hw _ (List.mem_of_getElem? (i := 11) rfl))) (Or.inr (hw _ (List.mem_of_getElem? (i := 25) rfl))) (by decide) (by decide) (by decide))))
  have G33 := ((((((Fw5.other W8 (Or.inr (slot_ne (t := .long) (t' := .long) (Or.inr (hw _ (List.mem_of_getElem? (i := 13) rfl))) (Or.inr (hw _ (List.mem_of_getElem? (i := 15) rfl))) (by decide) (by decide) (by decide)))).other W11 (Or.inr (slot_ne (t := .long) (t' := .long) (Or.inr (hw _ (List.mem_of_getElem? (i := 13) rfl))) (Or.inr (hw _ (List.mem_of_getElem? (i := 17) rfl))) (by decide) (by decide) (by decide)))).other W14 (Or.inr (slot_ne (t := .long) (t' := .long) (Or.inr (hw _ (List.mem_of_getElem? (i := 13) rfl))) (Or.inr (hw _ (List.mem_of_getElem? (i := 19) rfl))) (by decide) (by decide) (by decide)))).other W17 (Or.inr (slot_ne (t := .long) (t' := .long) (Or.inr (hw _ (List.mem_of_getElem? (i := 13) rfl))) (Or.inr (hw _ (List.mem_of_getElem? (i := 21) rfl))) (by decide) (by decide) (by decide)))).other W20 (Or.inr (slot_ne (t := .long) (t' := .long) (Or.inr (hw _ (List.mem_of_getElem? (i := 13) rfl))) (Or.inr (hw _ (List.mem_of_getElem? (i := 23) rfl))) (by decide) (by decide) (by decide)))).other W23 (Or.inr (slot_ne (t := .long) (t' := .long) (Or.inr (hw _ (List.mem_of_getElem? (i := 13) rfl))) (Or.inr (hw _ (List.mem_of_getElem? (i := 25) rfl))) (by decide) (by decide) (by decide))))
  have G34 := (((((Fw8.other W11 (Or.inr (slot_ne (t := .long) (t' := .long) (Or.inr (hw _ (List.mem_of_getElem? (i := 15) rfl))) (Or.inr (hw _ (List.mem_of_getElem? (i := 17) rfl))) (by decide) (by decide) (by decide)))).other W14 (Or.inr (slot_ne (t := .long) (t' := .long) (Or.inr (hw _ (List.mem_of_getElem? (i := 15) rfl))) (Or.inr (hw _ (List.mem_of_getElem? (i := 19) rfl))) (by decide) (by decide) (by decide)))).other W17 (Or.inr (slot_ne (t := .long) (t' := .long) (Or.inr (hw _ (List.mem_of_getElem? (i := 15) rfl))) (Or.inr (hw _ (List.mem_of_getElem? (i := 21) rfl))) (by decide) (by decide) (by decide)))).other W20 (Or.inr (slot_ne (t := .long) (t' := .long) (Or.inr (hw _ (List.mem_of_getElem? (i := 15) rfl))) (Or.inr (hw _ (List.mem_of_getElem? (i := 23) rfl))) (by decide) (by decide) (by decide)))).other W23 (Or.inr (slot_ne (t := .long) (t' := .long) (Or.inr (hw _ (List.mem_of_getElem? (i := 15) rfl))) (Or.inr (hw _ (List.mem_of_getElem? (i := 25) rfl))) (by decide) (by decide) (by decide))))
  have G35 := ((((Fw11.other W14 (Or.inr (slot_ne (t := .long) (t' := .long) (Or.inr (hw _ (List.mem_of_getElem? (i := 17) rfl))) (Or.inr (hw _ (List.mem_of_getElem? (i := 19) rfl))) (by decide) (by decide) (by decide)))).other W17 (Or.inr (slot_ne (t := .long) (t' := .long) (Or.inr (hw _ (List.mem_of_getElem? (i := 17) rfl))) (Or.inr (hw _ (List.mem_of_getElem? (i := 21) rfl))) (by decide) (by decide) (by decide)))).other W20 (Or.inr (slot_ne (t := .long) (t' := .long) (Or.inr (hw _ (List.mem_of_getElem? (i := 17) rfl))) (Or.inr (hw _ (List.mem_of_getElem? (i := 23) rfl))) (by decide) (by decide) (by decide)))).other W23 (Or.inr (slot_ne (t := .long) (t' := .long) (Or.inr (hw _ (List.mem_of_getElem? (i := 17) rfl))) (Or.inr (hw _ (List.mem_of_getElem? (i := 25) rfl))) (by decide) (by decide) (by decide))))
  have G36 := (((Fw14.other W17 (Or.inr (slot_ne (t := .long) (t' := .long) (Or.inr (hw _ (List.mem_of_getElem? (i := 19) rfl))) (Or.inr (hw _ (List.mem_of_getElem? (i := 21) rfl))) (by decide) (by decide) (by decide)))).other W20 (Or.inr (slot_ne (t := .long) (t' := .long) (Or.inr (hw _ (List.mem_of_getElem? (i := 19) rfl))) (Or.inr (hw _ (List.mem_of_getElem? (i := 23) rfl))) (by decide) (by decide) (by decide)))).other W23 (Or.inr (slot_ne (t := .long) (t' := .long) (Or.inr (hw _ (List.mem_of_getElem? (i := 19) rfl))) (Or.inr (hw _ (List.mem_of_getElem? (i := 25) rfl))) (by decide) (by decide) (by decide))))
  have G37 := ((Fw17.other W20 (Or.inr (slot_ne (t := .long) (t' := .long) (Or.inr (hw _ (List.mem_of_getElem? (i := 21) rfl))) (Or.inr (hw _ (List.mem_of_getElem? (i := 23) rfl))) (by decide) (by decide) (by decide)))).other W23 (Or.inr (slot_ne (t := .long) (t' := .long) (Or.inr (hw _ (List.mem_of_getElem? (i := 21) rfl))) (Or.inr (hw _ (List.mem_of_getElem? (i := 25) rfl))) (by decide) (by decide) (by decide))))
  have G38 := (Fw20.other W23 (Or.inr (slot_ne (t := .long) (t' := .long) (Or.inr (hw _ (List.mem_of_getElem? (i := 23) rfl))) (Or.inr (hw _ (List.mem_of_getElem? (i := 25) rfl))) (by decide) (by decide) (by decide))))
  exact k_retV X23 hx hlk (by decide) (by decide) hret (hb hby d1_50) ⟨rfl, N23, by rw [e23]; exact Kp31, by rw [e23]; exact G32, by rw [e23]; exact G33, by rw [e23]; exact G34, by rw [e23]; exact G35, by rw [e23]; exact G36, by rw [e23]; exact G37, by rw [e23]; exact G38, by rw [e23]; exact Fw23⟩
def own_eq (a0 : Int32) (a1 : Int64) (a2 : Int64) (a3 : Int64) (a4 : Int64) (a5 : Int64) (a6 : Int64) (b0 : Int32) (b1 : Int64) (b2 : Int64) (b3 : Int64) (b4 : Int64) (b5 : Int64) (b6 : Int64) : Int32 := if a0 = b0 then if a1 = b1 then if a2 = b2 then if a3 = b3 then if a4 = b4 then if a5 = b5 then if a6 = b6 then 1 else 0 else 0 else 0 else 0 else 0 else 0 else 0
theorem d3_0 : decode prog_69_method_18_code 0 = .ok (.aload_n 1, 1) := by decide +kernel
theorem d3_1 : decode prog_69_method_18_code 1 = .ok (.instanceof 8, 3) := by decide +kernel
theorem d3_4 : decode prog_69_method_18_code 4 = .ok (.ifCond .eq 95, 3) := by decide +kernel
theorem d3_7 : decode prog_69_method_18_code 7 = .ok (.aload_n 1, 1) := by decide +kernel
theorem d3_8 : decode prog_69_method_18_code 8 = .ok (.checkcast 8, 3) := by decide +kernel
theorem d3_11 : decode prog_69_method_18_code 11 = .ok (.astore_n 2, 1) := by decide +kernel
theorem d3_12 : decode prog_69_method_18_code 12 = .ok (.aload_n 0, 1) := by decide +kernel
theorem d3_13 : decode prog_69_method_18_code 13 = .ok (.getfield 7, 3) := by decide +kernel
theorem d3_16 : decode prog_69_method_18_code 16 = .ok (.aload_n 2, 1) := by decide +kernel
theorem d3_17 : decode prog_69_method_18_code 17 = .ok (.getfield 7, 3) := by decide +kernel
theorem d3_20 : decode prog_69_method_18_code 20 = .ok (.if_icmp .ne 79, 3) := by decide +kernel
theorem d3_23 : decode prog_69_method_18_code 23 = .ok (.aload_n 0, 1) := by decide +kernel
theorem d3_24 : decode prog_69_method_18_code 24 = .ok (.getfield 17, 3) := by decide +kernel
theorem d3_27 : decode prog_69_method_18_code 27 = .ok (.aload_n 2, 1) := by decide +kernel
theorem d3_28 : decode prog_69_method_18_code 28 = .ok (.getfield 17, 3) := by decide +kernel
theorem d3_31 : decode prog_69_method_18_code 31 = .ok (.lcmp, 1) := by decide +kernel
theorem d3_32 : decode prog_69_method_18_code 32 = .ok (.ifCond .ne 67, 3) := by decide +kernel
theorem d3_35 : decode prog_69_method_18_code 35 = .ok (.aload_n 0, 1) := by decide +kernel
theorem d3_36 : decode prog_69_method_18_code 36 = .ok (.getfield 20, 3) := by decide +kernel
theorem d3_39 : decode prog_69_method_18_code 39 = .ok (.aload_n 2, 1) := by decide +kernel
theorem d3_40 : decode prog_69_method_18_code 40 = .ok (.getfield 20, 3) := by decide +kernel
theorem d3_43 : decode prog_69_method_18_code 43 = .ok (.lcmp, 1) := by decide +kernel
theorem d3_44 : decode prog_69_method_18_code 44 = .ok (.ifCond .ne 55, 3) := by decide +kernel
theorem d3_47 : decode prog_69_method_18_code 47 = .ok (.aload_n 0, 1) := by decide +kernel
theorem d3_48 : decode prog_69_method_18_code 48 = .ok (.getfield 23, 3) := by decide +kernel
theorem d3_51 : decode prog_69_method_18_code 51 = .ok (.aload_n 2, 1) := by decide +kernel
theorem d3_52 : decode prog_69_method_18_code 52 = .ok (.getfield 23, 3) := by decide +kernel
theorem d3_55 : decode prog_69_method_18_code 55 = .ok (.lcmp, 1) := by decide +kernel
theorem d3_56 : decode prog_69_method_18_code 56 = .ok (.ifCond .ne 43, 3) := by decide +kernel
theorem d3_59 : decode prog_69_method_18_code 59 = .ok (.aload_n 0, 1) := by decide +kernel
theorem d3_60 : decode prog_69_method_18_code 60 = .ok (.getfield 26, 3) := by decide +kernel
theorem d3_63 : decode prog_69_method_18_code 63 = .ok (.aload_n 2, 1) := by decide +kernel
theorem d3_64 : decode prog_69_method_18_code 64 = .ok (.getfield 26, 3) := by decide +kernel
theorem d3_67 : decode prog_69_method_18_code 67 = .ok (.lcmp, 1) := by decide +kernel
theorem d3_68 : decode prog_69_method_18_code 68 = .ok (.ifCond .ne 31, 3) := by decide +kernel
theorem d3_71 : decode prog_69_method_18_code 71 = .ok (.aload_n 0, 1) := by decide +kernel
theorem d3_72 : decode prog_69_method_18_code 72 = .ok (.getfield 29, 3) := by decide +kernel
theorem d3_75 : decode prog_69_method_18_code 75 = .ok (.aload_n 2, 1) := by decide +kernel
theorem d3_76 : decode prog_69_method_18_code 76 = .ok (.getfield 29, 3) := by decide +kernel
theorem d3_79 : decode prog_69_method_18_code 79 = .ok (.lcmp, 1) := by decide +kernel
theorem d3_80 : decode prog_69_method_18_code 80 = .ok (.ifCond .ne 19, 3) := by decide +kernel
theorem d3_83 : decode prog_69_method_18_code 83 = .ok (.aload_n 0, 1) := by decide +kernel
theorem d3_84 : decode prog_69_method_18_code 84 = .ok (.getfield 32, 3) := by decide +kernel
theorem d3_87 : decode prog_69_method_18_code 87 = .ok (.aload_n 2, 1) := by decide +kernel
theorem d3_88 : decode prog_69_method_18_code 88 = .ok (.getfield 32, 3) := by decide +kernel
theorem d3_91 : decode prog_69_method_18_code 91 = .ok (.lcmp, 1) := by decide +kernel
theorem d3_92 : decode prog_69_method_18_code 92 = .ok (.ifCond .ne 7, 3) := by decide +kernel
theorem d3_95 : decode prog_69_method_18_code 95 = .ok (.iconst 1, 1) := by decide +kernel
theorem d3_96 : decode prog_69_method_18_code 96 = .ok (.goto 4, 3) := by decide +kernel
theorem d3_99 : decode prog_69_method_18_code 99 = .ok (.iconst 0, 1) := by decide +kernel
theorem d3_100 : decode prog_69_method_18_code 100 = .ok (.ireturn, 1) := by decide +kernel
theorem ef_3 (m : MethodId) (x0 : Addr) (x1 : Addr) : entryFrame m #[(.ref x0), (.ref x1)] 3 = mkF m 0 #[.val (.ref x0), .val (.ref x1), .unset] [] := by first | (simp [entryFrame, mkF, argsToLocals, Value.category]; done) | rfl
set_option maxRecDepth 65536 in
set_option maxHeartbeats 40000000 in
theorem rm3 (l : Launch) (Z : State) (a0 : Array Value) (hw : ∀ d ∈ tables_1, d.before a0 Z = true) (x0 : Addr) (x1 : Addr) (h0 : Heap) (n0 : Nat) (u0 v0 : Int32) (u1 u2 u3 u4 u5 u6 v1 v2 v3 v4 v5 v6 : Int64) (E1 : Exa Z h0 x1 "com/example/slotwright/slotwright/Job") (F0 : Fld Z h0 x0 "com/example/slotwright/slotwright/Job" "index" "I" (.int u0)) (G0 : Fld Z h0 x1 "com/example/slotwright/slotwright/Job" "index" "I" (.int v0)) (F1 : Fld Z h0 x0 "com/example/slotwright/slotwright/Job" "number" "J" (.long u1)) (G1 : Fld Z h0 x1 "com/example/slotwright/slotwright/Job" "number" "J" (.long v1)) (F2 : Fld Z h0 x0 "com/example/slotwright/slotwright/Job" "submit" "J" (.long u2)) (G2 : Fld Z h0 x1 "com/example/slotwright/slotwright/Job" "submit" "J" (.long v2)) (F3 : Fld Z h0 x0 "com/example/slotwright/slotwright/Job" "runtime" "J" (.long u3)) (G3 : Fld Z h0 x1 "com/example/slotwright/slotwright/Job" "runtime" "J" (.long v3)) (F4 : Fld Z h0 x0 "com/example/slotwright/slotwright/Job" "processors" "J" (.long u4)) (G4 : Fld Z h0 x1 "com/example/slotwright/slotwright/Job" "processors" "J" (.long v4)) (F5 : Fld Z h0 x0 "com/example/slotwright/slotwright/Job" "estimate" "J" (.long u5)) (G5 : Fld Z h0 x1 "com/example/slotwright/slotwright/Job" "estimate" "J" (.long v5)) (F6 : Fld Z h0 x0 "com/example/slotwright/slotwright/Job" "partition" "J" (.long u6)) (G6 : Fld Z h0 x1 "com/example/slotwright/slotwright/Job" "partition" "J" (.long v6)) :
    Con l Z (⟨"com/example/slotwright/slotwright/Job", "equals", "(Ljava/lang/Object;)Z"⟩ : MethodName) prog_69_method_18_code 3 (some .boolean) [] ({ frames := 0, cells := 0, slots := 0, locals := 0 } : Room) #[(.ref x0), (.ref x1)] h0 (fun v h L => v = some (.int (own_eq u0 u1 u2 u3 u4 u5 u6 v0 v1 v2 v3 v4 v5 v6)) ∧ Fr n0 L ∧ h = h0) := by
  refine Con.of (plainFor_of_name pn_0) ?_
  intro p e s m below meth c s₁ X0 hx hby hml hown hnm hret hlk hZ e0
  refine End.cast ?_ (ef_3 m x0 x1)
  have N0 := Fr.nil n0
  refine k_aloadN X0 hx (q := 1) rfl (hb hby d3_0) rfl rfl ?_
  refine k_instY X0 hx hZ hown (hw _ (List.mem_of_getElem? (i := 31) rfl)) e0 (q := 4) rfl (hb hby d3_1) (Ins.self E1) ?_
  intro T1 X1 e1
  refine k_if_eq X1 hx (q1 := 99) (q := 7) (by decide) (by decide) rfl (hb hby d3_4) (fun hc => absurd hc (by decide)) (fun _ => ?_)
  refine k_aloadN X1 hx (q := 8) rfl (hb hby d3_7) rfl rfl ?_
  refine k_cast X1 hx hZ hown (hw _ (List.mem_of_getElem? (i := 31) rfl)) e1 (q := 11) rfl (hb hby d3_8) (Ins.self E1) ?_
  intro T3 X3 e3
  refine k_astoreN X3 hx (L' := #[.val (.ref x0), .val (.ref x1), .val (.ref x1)]) (q := 12) rfl (hb hby d3_11) rfl rfl ?_
  refine k_aloadN X3 hx (q := 13) rfl (hb hby d3_12) rfl rfl ?_
  refine k_getF X3 hx hZ (host := "") hown (Or.inl (hw _ (List.mem_of_getElem? (i := 10) rfl))) Via.refl e3 (q := 16) rfl (hb hby d3_13) F0 ?_
  intro T4 X4 e4
  refine k_aloadN X4 hx (q := 17) rfl (hb hby d3_16) rfl rfl ?_
  refine k_getF X4 hx hZ (host := "") hown (Or.inl (hw _ (List.mem_of_getElem? (i := 10) rfl))) Via.refl e4 (q := 20) rfl (hb hby d3_17) G0 ?_
  intro T5 X5 e5
  refine k_icmp_ne X5 hx (q1 := 99) (q := 23) (by decide) (by decide) rfl (hb hby d3_20) (fun hc6 => ?_) (fun hc6 => ?_)
  · refine k_iconst X5 hx (v := (0 : Int32)) rfl (q := 100) rfl (hb hby d3_99) ?_
    exact k_retN X5 hx (t := .boolean) hlk (by decide) (by decide) hret (by simp) (hb hby d3_100) ⟨by simp only [own_eq, if_neg hc6]; rfl, N0, e5⟩
  · refine k_aloadN X5 hx (q := 24) rfl (hb hby d3_23) rfl rfl ?_
    refine k_getF X5 hx hZ (host := "") hown (Or.inl (hw _ (List.mem_of_getElem? (i := 14) rfl))) Via.refl e5 (q := 27) rfl (hb hby d3_24) F1 ?_
    intro T7 X7 e7
    refine k_aloadN X7 hx (q := 28) rfl (hb hby d3_27) rfl rfl ?_
    refine k_getF X7 hx hZ (host := "") hown (Or.inl (hw _ (List.mem_of_getElem? (i := 14) rfl))) Via.refl e7 (q := 31) rfl (hb hby d3_28) G1 ?_
    intro T8 X8 e8
    refine k_lcmp_ne X8 hx (q1 := 99) (q := 35) (by decide) (by decide) rfl (hb hby d3_31) (hb hby d3_32) (fun hc9 => ?_) (fun hc9 => ?_)
    · refine k_iconst X8 hx (v := (0 : Int32)) rfl (q := 100) rfl (hb hby d3_99) ?_
      exact k_retN X8 hx (t := .boolean) hlk (by decide) (by decide) hret (by simp) (hb hby d3_100) ⟨by simp only [own_eq, if_pos hc6, if_neg hc9]; rfl, N0, e8⟩
    · refine k_aloadN X8 hx (q := 36) rfl (hb hby d3_35) rfl rfl ?_
      refine k_getF X8 hx hZ (host := "") hown (Or.inl (hw _ (List.mem_of_getElem? (i := 16) rfl))) Via.refl e8 (q := 39) rfl (hb hby d3_36) F2 ?_
      intro T10 X10 e10
      refine k_aloadN X10 hx (q := 40) rfl (hb hby d3_39) rfl rfl ?_
      refine k_getF X10 hx hZ (host := "") hown (Or.inl (hw _ (List.mem_of_getElem? (i := 16) rfl))) Via.refl e10 (q := 43) rfl (hb hby d3_40) G2 ?_
      intro T11 X11 e11
      refine k_lcmp_ne X11 hx (q1 := 99) (q := 47) (by decide) (by decide) rfl (hb hby d3_43) (hb hby d3_44) (fun hc12 => ?_) (fun hc12 => ?_)
      · refine k_iconst X11 hx (v := (0 : Int32)) rfl (q := 100) rfl (hb hby d3_99) ?_
        exact k_retN X11 hx (t := .boolean) hlk (by decide) (by decide) hret (by simp) (hb hby d3_100) ⟨by simp only [own_eq, if_pos hc6, if_pos hc9, if_neg hc12]; rfl, N0, e11⟩
      · refine k_aloadN X11 hx (q := 48) rfl (hb hby d3_47) rfl rfl ?_
        refine k_getF X11 hx hZ (host := "") hown (Or.inl (hw _ (List.mem_of_getElem? (i := 18) rfl))) Via.refl e11 (q := 51) rfl (hb hby d3_48) F3 ?_
        intro T13 X13 e13
        refine k_aloadN X13 hx (q := 52) rfl (hb hby d3_51) rfl rfl ?_
        refine k_getF X13 hx hZ (host := "") hown (Or.inl (hw _ (List.mem_of_getElem? (i := 18) rfl))) Via.refl e13 (q := 55) rfl (hb hby d3_52) G3 ?_
        intro T14 X14 e14
        refine k_lcmp_ne X14 hx (q1 := 99) (q := 59) (by decide) (by decide) rfl (hb hby d3_55) (hb hby d3_56) (fun hc15 => ?_) (fun hc15 => ?_)
        · refine k_iconst X14 hx (v := (0 : Int32)) rfl (q := 100) rfl (hb hby d3_99) ?_
          exact k_retN X14 hx (t := .boolean) hlk (by decide) (by decide) hret (by simp) (hb hby d3_100) ⟨by simp only [own_eq, if_pos hc6, if_pos hc9, if_pos hc12, if_neg hc15]; rfl, N0, e14⟩
        · refine k_aloadN X14 hx (q := 60) rfl (hb hby d3_59) rfl rfl ?_
          refine k_getF X14 hx hZ (host := "") hown (Or.inl (hw _ (List.mem_of_getElem? (i := 20) rfl))) Via.refl e14 (q := 63) rfl (hb hby d3_60) F4 ?_
          intro T16 X16 e16
          refine k_aloadN X16 hx (q := 64) rfl (hb hby d3_63) rfl rfl ?_
          refine k_getF X16 hx hZ (host := "") hown (Or.inl (hw _ (List.mem_of_getElem? (i := 20) rfl))) Via.refl e16 (q := 67) rfl (hb hby d3_64) G4 ?_
          intro T17 X17 e17
          refine k_lcmp_ne X17 hx (q1 := 99) (q := 71) (by decide) (by decide) rfl (hb hby d3_67) (hb hby d3_68) (fun hc18 => ?_) (fun hc18 => ?_)
          · refine k_iconst X17 hx (v := (0 : Int32)) rfl (q := 100) rfl (hb hby d3_99) ?_
            exact k_retN X17 hx (t := .boolean) hlk (by decide) (by decide) hret (by simp) (hb hby d3_100) ⟨by simp only [own_eq, if_pos hc6, if_pos hc9, if_pos hc12, if_pos hc15, if_neg hc18]; rfl, N0, e17⟩
          · refine k_aloadN X17 hx (q := 72) rfl (hb hby d3_71) rfl rfl ?_
            refine k_getF X17 hx hZ (host := "") hown (Or.inl (hw _ (List.mem_of_getElem? (i := 22) rfl))) Via.refl e17 (q := 75) rfl (hb hby d3_72) F5 ?_
            intro T19 X19 e19
            refine k_aloadN X19 hx (q := 76) rfl (hb hby d3_75) rfl rfl ?_
            refine k_getF X19 hx hZ (host := "") hown (Or.inl (hw _ (List.mem_of_getElem? (i := 22) rfl))) Via.refl e19 (q := 79) rfl (hb hby d3_76) G5 ?_
            intro T20 X20 e20
            refine k_lcmp_ne X20 hx (q1 := 99) (q := 83) (by decide) (by decide) rfl (hb hby d3_79) (hb hby d3_80) (fun hc21 => ?_) (fun hc21 => ?_)
            · refine k_iconst X20 hx (v := (0 : Int32)) rfl (q := 100) rfl (hb hby d3_99) ?_
              exact k_retN X20 hx (t := .boolean) hlk (by decide) (by decide) hret (by simp) (hb hby d3_100) ⟨by simp only [own_eq, if_pos hc6, if_pos hc9, if_pos hc12, if_pos hc15, if_pos hc18, if_neg hc21]; rfl, N0, e20⟩
            · refine k_aloadN X20 hx (q := 84) rfl (hb hby d3_83) rfl rfl ?_
              refine k_getF X20 hx hZ (host := "") hown (Or.inl (hw _ (List.mem_of_getElem? (i := 24) rfl))) Via.refl e20 (q := 87) rfl (hb hby d3_84) F6 ?_
              intro T22 X22 e22
              refine k_aloadN X22 hx (q := 88) rfl (hb hby d3_87) rfl rfl ?_
              refine k_getF X22 hx hZ (host := "") hown (Or.inl (hw _ (List.mem_of_getElem? (i := 24) rfl))) Via.refl e22 (q := 91) rfl (hb hby d3_88) G6 ?_
              intro T23 X23 e23
              refine k_lcmp_ne X23 hx (q1 := 99) (q := 95) (by decide) (by decide) rfl (hb hby d3_91) (hb hby d3_92) (fun hc24 => ?_) (fun hc24 => ?_)
              · refine k_iconst X23 hx (v := (0 : Int32)) rfl (q := 100) rfl (hb hby d3_99) ?_
                exact k_retN X23 hx (t := .boolean) hlk (by decide) (by decide) hret (by simp) (hb hby d3_100) ⟨by simp only [own_eq, if_pos hc6, if_pos hc9, if_pos hc12, if_pos hc15, if_pos hc18, if_pos hc21, if_neg hc24]; rfl, N0, e23⟩
              · refine k_iconst X23 hx (v := (1 : Int32)) rfl (q := 96) rfl (hb hby d3_95) ?_
                refine k_goto X23 hx (q := 100) (by decide) (by decide) (hb hby d3_96) ?_
                exact k_retN X23 hx (t := .boolean) hlk (by decide) (by decide) hret (by simp) (hb hby d3_100) ⟨by simp only [own_eq, if_pos hc6, if_pos hc9, if_pos hc12, if_pos hc15, if_pos hc18, if_pos hc21, if_pos hc24]; rfl, N0, e23⟩
theorem ef_3n (m : MethodId) (x0 : Addr) : entryFrame m #[(.ref x0), .null] 3 = mkF m 0 #[.val (.ref x0), .val .null, .unset] [] := by first | (simp [entryFrame, mkF, argsToLocals, Value.category]; done) | rfl
set_option maxRecDepth 65536 in
set_option maxHeartbeats 40000000 in
theorem rm3n (l : Launch) (Z : State) (a0 : Array Value) (hw : ∀ d ∈ tables_1, d.before a0 Z = true) (x0 : Addr) (h0 : Heap) (n0 : Nat) :
    Con l Z (⟨"com/example/slotwright/slotwright/Job", "equals", "(Ljava/lang/Object;)Z"⟩ : MethodName) prog_69_method_18_code 3 (some .boolean) [] ({ frames := 0, cells := 0, slots := 0, locals := 0 } : Room) #[(.ref x0), .null] h0 (fun v h L => v = some (.int 0) ∧ Fr n0 L ∧ h = h0) := by
  refine Con.of (plainFor_of_name pn_0) ?_
  intro p e s m below meth c s₁ X0 hx hby hml hown hnm hret hlk hZ e0
  refine End.cast ?_ (ef_3n m x0)
  have N0 := Fr.nil n0
  refine k_aloadN X0 hx (q := 1) rfl (hb hby d3_0) rfl rfl ?_
  refine k_instNull X0 hx (q := 4) rfl (hb hby d3_1) ?_
  refine k_if_eq X0 hx (q1 := 99) (q := 7) (by decide) (by decide) rfl (hb hby d3_4) (fun _ => ?_) (fun hc => absurd rfl hc)
  refine k_iconst X0 hx (v := (0 : Int32)) rfl (q := 100) rfl (hb hby d3_99) ?_
  exact k_retN X0 hx (t := .boolean) hlk (by decide) (by decide) hret (by simp) (hb hby d3_100) ⟨rfl, N0, e0⟩
theorem own_unlike {Z : State} {a0 : Array Value} (hw : ∀ d ∈ tables_1, d.before a0 Z = true) : ∃ c t, Z.vm.findClass "java/lang/Long" = some c ∧ Z.vm.findClass "com/example/slotwright/slotwright/Job" = some t ∧ Z.vm.assignable c t = false := by
  obtain ⟨t, kt, g1, g2, g3, g4, -, -⟩ := Cond.instantiable_spec (hw _ (List.mem_of_getElem? (i := 2) rfl))
  have gi : kt.isInterface = false := (Bool.or_eq_false_iff.mp g4).1
  obtain ⟨cO, kO, o1, o2, o3, -, -⟩ := Cond.noSuperclass_spec (hw _ (List.mem_of_getElem? (i := 57) rfl))
  have n0 : NS Z "java/lang/Object" "com/example/slotwright/slotwright/Job" := by
    have ne := ids_ne o1 g1 (by decide)
    refine ⟨cO, t, o1, g1, fun fuel => ?_⟩
    cases fuel with
    | zero => rfl
    | succ f => simp [Vm.isSubclassAux, ne, o2, o3]
  have n1 : NS Z "java/lang/Number" "com/example/slotwright/slotwright/Job" := NS.step (hw _ (List.mem_of_getElem? (i := 56) rfl)) n0 (by decide)
  obtain ⟨c, t', l1, l2, l3⟩ := NS.step (hw _ (List.mem_of_getElem? (i := 55) rfl)) n1 (by decide : "java/lang/Long" ≠ _)
  cases g1.symm.trans l2
  obtain ⟨q, k, kq, h1, h2, h3, h4, h5, -⟩ := Cond.superclass_spec l1 (hw _ (List.mem_of_getElem? (i := 55) rfl))
  have ne := ids_ne l1 g1 (by decide)
  refine ⟨c, t, l1, g1, ?_⟩
  show Z.vm.assignableAux (255 + 1) c t = false
  simp [Vm.assignableAux, ne, h2, g2, h5, g3, gi, Vm.isSubclass, l3]
set_option maxRecDepth 65536 in
set_option maxHeartbeats 40000000 in
theorem rm3l (l : Launch) (Z : State) (a0 : Array Value) (hw : ∀ d ∈ tables_1, d.before a0 Z = true) (x0 : Addr) (x1 : Addr) (h0 : Heap) (n0 : Nat) (E1 : Exa Z h0 x1 "java/lang/Long") :
    Con l Z (⟨"com/example/slotwright/slotwright/Job", "equals", "(Ljava/lang/Object;)Z"⟩ : MethodName) prog_69_method_18_code 3 (some .boolean) [] ({ frames := 0, cells := 0, slots := 0, locals := 0 } : Room) #[(.ref x0), (.ref x1)] h0 (fun v h L => v = some (.int 0) ∧ Fr n0 L ∧ h = h0) := by
  refine Con.of (plainFor_of_name pn_0) ?_
  intro p e s m below meth c s₁ X0 hx hby hml hown hnm hret hlk hZ e0
  refine End.cast ?_ (ef_3 m x0 x1)
  have N0 := Fr.nil n0
  refine k_aloadN X0 hx (q := 1) rfl (hb hby d3_0) rfl rfl ?_
  refine k_instNo X0 hx hZ hown (hw _ (List.mem_of_getElem? (i := 31) rfl)) e0 (q := 4) rfl (hb hby d3_1) E1 (own_unlike hw) ?_
  intro T1 X1 e1
  refine k_if_eq X1 hx (q1 := 99) (q := 7) (by decide) (by decide) rfl (hb hby d3_4) (fun _ => ?_) (fun hc => absurd rfl hc)
  refine k_iconst X1 hx (v := (0 : Int32)) rfl (q := 100) rfl (hb hby d3_99) ?_
  exact k_retN X1 hx (t := .boolean) hlk (by decide) (by decide) hret (by simp) (hb hby d3_100) ⟨rfl, N0, e1⟩
theorem d6_0 : decode jdk_18_method_1_code 0 = .ok (.aload_n 0, 1) := by decide +kernel
theorem d6_1 : decode jdk_18_method_1_code 1 = .ok (.invokespecial 1, 3) := by decide +kernel
theorem d6_4 : decode jdk_18_method_1_code 4 = .ok (.return_, 1) := by decide +kernel
theorem ef_6 (m : MethodId) (x0 : Addr) : entryFrame m #[(.ref x0)] 1 = mkF m 0 #[.val (.ref x0)] [] := by first | (simp [entryFrame, mkF, argsToLocals, Value.category]; done) | rfl
set_option maxRecDepth 65536 in
set_option maxHeartbeats 40000000 in
theorem rm6 (l : Launch) (Z : State) (a0 : Array Value) (hw : ∀ d ∈ tables_1, d.before a0 Z = true) (x0 : Addr) (h0 : Heap) (n0 : Nat) :
    Con l Z (⟨"java/lang/Number", "<init>", "()V"⟩ : MethodName) jdk_18_method_1_code 1 none [] ({ frames := 1, cells := 0, slots := 0, locals := 12 } : Room) #[(.ref x0)] h0 (fun v h L => v = none ∧ Fr n0 L ∧ h = h0) := by
  refine Con.of (plainFor_of_name pn_1) ?_
  intro p e s m below meth c s₁ X0 hx hby hml hown hnm hret hlk hZ e0
  refine End.cast ?_ (ef_6 m x0)
  have N0 := Fr.nil n0
  refine k_aloadN X0 hx (q := 1) rfl (hb hby d6_0) rfl rfl ?_
  refine k_initO X0 hx hZ hown (hw _ (List.mem_of_getElem? (i := 52) rfl)) (hw _ (List.mem_of_getElem? (i := 8) rfl)) (hw _ (List.mem_of_getElem? (i := 9) rfl)) e0 (q := 4) rfl (hb hby d6_1) (by rw [hml]; rfl) (by decide) 0 (by first | exact Nat.le_refl _ | simp [Value.category]) (by decide) ?_
  intro T1 X1 e1
  exact k_retV X1 hx hlk (by decide) (by decide) hret (hb hby d6_4) ⟨rfl, N0, e1⟩
theorem d5_0 : decode jdk_35_method_26_code 0 = .ok (.aload_n 0, 1) := by decide +kernel
theorem d5_1 : decode jdk_35_method_26_code 1 = .ok (.invokespecial 270, 3) := by decide +kernel
theorem d5_4 : decode jdk_35_method_26_code 4 = .ok (.aload_n 0, 1) := by decide +kernel
theorem d5_5 : decode jdk_35_method_26_code 5 = .ok (.lload_n 1, 1) := by decide +kernel
theorem d5_6 : decode jdk_35_method_26_code 6 = .ok (.putfield 273, 3) := by decide +kernel
theorem d5_9 : decode jdk_35_method_26_code 9 = .ok (.return_, 1) := by decide +kernel
theorem ef_5 (m : MethodId) (x0 : Addr) (x1 : Int64) : entryFrame m #[(.ref x0), (.long x1)] 3 = mkF m 0 #[.val (.ref x0), .val (.long x1), .second] [] := by first | (simp [entryFrame, mkF, argsToLocals, Value.category]; done) | rfl
set_option maxRecDepth 65536 in
set_option maxHeartbeats 40000000 in
theorem rm5 (l : Launch) (Z : State) (a0 : Array Value) (hw : ∀ d ∈ tables_1, d.before a0 Z = true) (x0 : Addr) (x1 : Int64) (h0 : Heap) (n0 : Nat) (ga : n0 ≤ x0) (E0 : Exa Z h0 x0 "java/lang/Long") (F0 : Fld Z h0 x0 "java/lang/Long" "value" "J" (.long (0 : Int64))) :
    Con l Z (⟨"java/lang/Long", "<init>", "(J)V"⟩ : MethodName) jdk_35_method_26_code 3 none [] ({ frames := 2, cells := 0, slots := 0, locals := 24 } : Room) #[(.ref x0), (.long x1)] h0 (fun v h L => v = none ∧ Fr n0 L ∧ Keep h0 h [x0]) := by
  refine Con.of (plainFor_of_name pn_2) ?_
  intro p e s m below meth c s₁ X0 hx hby hml hown hnm hret hlk hZ e0
  refine End.cast ?_ (ef_5 m x0 x1)
  have N0 := Fr.nil n0
  refine k_aloadN X0 hx (q := 1) rfl (hb hby d5_0) rfl rfl ?_
  refine k_callI X0 hx hZ (y := (⟨"java/lang/Number", "<init>", "()V"⟩ : MethodName)) hown rfl (hw _ (List.mem_of_getElem? (i := 46) rfl)) (hw _ (List.mem_of_getElem? (i := 47) rfl)) (hw _ (List.mem_of_getElem? (i := 50) rfl)) (hw _ (List.mem_of_getElem? (i := 51) rfl)) (by decide) 0 e0 (rm6 l Z a0 hw x0 h0 n0) (by decide) (by decide) (by decide) (by decide) (by rw [hml]; rfl) (a := x0) (as := []) (rest := []) pd_0 rfl (by first | exact Nat.le_refl _ | simp [Value.category]) (q := 4) rfl (hb hby d5_1) ?_
  rintro _ T1 L1 X1 ⟨rfl, N1q, e1⟩
  have N1 := Fr.app N0 N1q
  show End _ _ _ _ _ _ _ (T1.setTop (mkF m 4 #[.val (.ref x0), .val (.long x1), .second] []))
  refine k_aloadN X1 hx (q := 5) rfl (hb hby d5_4) rfl rfl ?_
  refine k_lloadN X1 hx (q := 6) rfl (hb hby d5_5) rfl ?_
  refine k_putF X1 hx hZ (host := "") hown (Or.inl (hw _ (List.mem_of_getElem? (i := 53) rfl))) Via.refl e1 (Or.inr ⟨(hw _ (List.mem_of_getElem? (i := 54) rfl)), rfl, hnm⟩) (hw _ (List.mem_of_getElem? (i := 41) rfl)) (ty := .long) (by decide) rfl rfl (q := 9) rfl (hb hby d5_6) F0 E0 ?_
  intro T2 h2 X2 e2 W2
  have K2 := Keep.of_wr W2
  have N2 := Fr.snoc X2 N1 ga
  have Fw2 := (F0).same W2
  have Kp3 : Keep h0 h2 [x0] := Keep.trans (Keep.refl h0 [x0]) K2 (allS (Or.inl (List.mem_of_getElem? (i := 0) rfl)) all0)
  exact k_retV X2 hx hlk (by decide) (by decide) hret (hb hby d5_9) ⟨rfl, N2, by rw [e2]; exact Kp3⟩
theorem own_slot {x : Int64} (h1 : ¬ x < (-128 : Int64)) (h2 : ¬ (127 : Int64) < x) : ∃ i, i < 256 ∧ Ix (x.toInt32 + (128 : Int32)) i := by
  rw [Int64.lt_iff_toInt_lt] at h1 h2
  have e1 : (-128 : Int64).toInt = -128 := by decide
  have e2 : (127 : Int64).toInt = 127 := by decide
  have e3 : (128 : Int32).toInt = 128 := by decide
  have a1 := c_l2i x
  have a2 := c_iadd x.toInt32 128
  have b1 := rng32 x.toInt32
  have b2 := rng32 (x.toInt32 + 128)
  refine ⟨(x.toInt32 + 128).toInt.toNat, ?_, Ix.of ?_⟩ <;> omega
theorem d4_0 : decode jdk_35_method_24_code 0 = .ok (.sipush 128, 3) := by decide +kernel
theorem d4_3 : decode jdk_35_method_24_code 3 = .ok (.istore_n 2, 1) := by decide +kernel
theorem d4_4 : decode jdk_35_method_24_code 4 = .ok (.lload_n 0, 1) := by decide +kernel
theorem d4_5 : decode jdk_35_method_24_code 5 = .ok (.ldc2_w 230, 3) := by decide +kernel
theorem d4_8 : decode jdk_35_method_24_code 8 = .ok (.lcmp, 1) := by decide +kernel
theorem d4_9 : decode jdk_35_method_24_code 9 = .ok (.ifCond .lt 22, 3) := by decide +kernel
theorem d4_12 : decode jdk_35_method_24_code 12 = .ok (.lload_n 0, 1) := by decide +kernel
theorem d4_13 : decode jdk_35_method_24_code 13 = .ok (.ldc2_w 232, 3) := by decide +kernel
theorem d4_16 : decode jdk_35_method_24_code 16 = .ok (.lcmp, 1) := by decide +kernel
theorem d4_17 : decode jdk_35_method_24_code 17 = .ok (.ifCond .gt 14, 3) := by decide +kernel
theorem d4_20 : decode jdk_35_method_24_code 20 = .ok (.getstatic 234, 3) := by decide +kernel
theorem d4_23 : decode jdk_35_method_24_code 23 = .ok (.lload_n 0, 1) := by decide +kernel
theorem d4_24 : decode jdk_35_method_24_code 24 = .ok (.l2i, 1) := by decide +kernel
theorem d4_25 : decode jdk_35_method_24_code 25 = .ok (.sipush 128, 3) := by decide +kernel
theorem d4_28 : decode jdk_35_method_24_code 28 = .ok (.iadd, 1) := by decide +kernel
theorem d4_29 : decode jdk_35_method_24_code 29 = .ok (.aaload, 1) := by decide +kernel
theorem d4_30 : decode jdk_35_method_24_code 30 = .ok (.areturn, 1) := by decide +kernel
theorem d4_31 : decode jdk_35_method_24_code 31 = .ok (.new 1, 3) := by decide +kernel
theorem d4_34 : decode jdk_35_method_24_code 34 = .ok (.dup, 1) := by decide +kernel
theorem d4_35 : decode jdk_35_method_24_code 35 = .ok (.lload_n 0, 1) := by decide +kernel
theorem d4_36 : decode jdk_35_method_24_code 36 = .ok (.invokespecial 240, 3) := by decide +kernel
theorem d4_39 : decode jdk_35_method_24_code 39 = .ok (.areturn, 1) := by decide +kernel
theorem ef_4 (m : MethodId) (x0 : Int64) : entryFrame m #[(.long x0)] 3 = mkF m 0 #[.val (.long x0), .second, .unset] [] := by first | (simp [entryFrame, mkF, argsToLocals, Value.category]; done) | rfl
set_option maxRecDepth 65536 in
set_option maxHeartbeats 40000000 in
theorem rm4 (l : Launch) (Z : State) (a0 : Array Value) (hw : ∀ d ∈ tables_1, d.before a0 Z = true) (x0 : Int64) (h0 : Heap) (n0 : Nat) (Z0 : n0 ≤ h0.size) (ca : Addr) (cv : Nat → Addr) (hS : Sta Z h0 "java/lang/Long$LongCache" "cache" "[Ljava/lang/Long;" (.ref ca)) (hC : Ary Z h0 ca (.object "java/lang/Long") 256 (fun t => .ref (cv t))) (hL : ∀ i, i < 256 → Exa Z h0 (cv i) "java/lang/Long") :
    Con l Z (⟨"java/lang/Long", "valueOf", "(J)Ljava/lang/Long;"⟩ : MethodName) jdk_35_method_24_code 3 (some (.object "java/lang/Long")) [] ({ frames := 3, cells := 1, slots := 1, locals := 39 } : Room) #[(.long x0)] h0 (fun v h L => ∃ a : Addr, v = some (.ref a) ∧ Fr n0 L ∧ Keep h0 h [] ∧ Exa Z h a "java/lang/Long") := by
  refine Con.of (plainFor_of_name pn_2) ?_
  intro p e s m below meth c s₁ X0 hx hby hml hown hnm hret hlk hZ e0
  refine End.cast ?_ (ef_4 m x0)
  have N0 := Fr.nil n0
  refine k_sipush X0 hx (v := (128 : Int32)) rfl (q := 3) rfl (hb hby d4_0) ?_
  refine k_istoreN X0 hx (L' := #[.val (.long x0), .second, .val (.int (128 : Int32))]) (q := 4) rfl (hb hby d4_3) rfl ?_
  refine k_lloadN X0 hx (q := 5) rfl (hb hby d4_4) rfl ?_
  refine k_ldc2J X0 hx hZ (v := (-128 : Int64)) hown (hw _ (List.mem_of_getElem? (i := 38) rfl)) (q := 8) rfl (hb hby d4_5) ?_
  refine k_lcmp_lt X0 hx (q1 := 31) (q := 12) (by decide) (by decide) rfl (hb hby d4_8) (hb hby d4_9) (fun hc1 => ?_) (fun hc1 => ?_)
  · refine k_new X0 hx hZ hown (hw _ (List.mem_of_getElem? (i := 40) rfl)) (hw _ (List.mem_of_getElem? (i := 41) rfl)) (hw _ (List.mem_of_getElem? (i := 36) rfl)) e0 (q := 34) rfl (hb hby d4_31) (by decide) (by decide) ?_
    intro T3 h3 a3 X3 e3 g3 E3 A3 D3
    have K3 := Keep.of_ext E3
    have F4 : Fld Z h3 a3 "java/lang/Long" "value" "J" (.long (0 : Int64)) := D3 (Or.inr (hw _ (List.mem_of_getElem? (i := 54) rfl))) (ty := .long) (by decide)
    refine k_dup X3 hx (q := 35) rfl (hb hby d4_34) rfl ?_
    refine k_lloadN X3 hx (q := 36) rfl (hb hby d4_35) rfl ?_
    have ge_a3 : n0 ≤ a3 := Nat.le_trans Z0 (Nat.le_of_eq g3.symm)
    refine k_callI X3 hx hZ (y := (⟨"java/lang/Long", "<init>", "(J)V"⟩ : MethodName)) hown rfl (hw _ (List.mem_of_getElem? (i := 42) rfl)) (hw _ (List.mem_of_getElem? (i := 43) rfl)) (hw _ (List.mem_of_getElem? (i := 36) rfl)) (hw _ (List.mem_of_getElem? (i := 45) rfl)) (by decide) 1 e3 (rm5 l Z a0 hw a3 x0 h3 n0 ge_a3 A3 F4) (by decide) (by decide) (by decide) (by decide) (by rw [hml]; rfl) (a := a3) (as := [(.long x0)]) (rest := [(.ref a3)]) pd_1 rfl (by first | exact Nat.le_refl _ | simp [Value.category]) (q := 39) rfl (hb hby d4_36) ?_
    rintro _ T5 L5 X5 ⟨rfl, N5q, K5⟩
    have N5 := Fr.app N0 N5q
    show End _ _ _ _ _ _ _ (T5.setTop (mkF m 39 #[.val (.long x0), .second, .val (.int (128 : Int32))] [(.ref a3)]))
    have Kp6 : Keep h0 h3 [] := Keep.trans (Keep.refl h0 []) K3 all0
    have Kp7 : Keep h0 T5.heap [] := Keep.trans Kp6 K5 (allS (Or.inr (Nat.le_trans (Keep.refl h0 []).1 (Nat.le_of_eq g3.symm))) all0)
    have G8 := (A3.keep K5)
    exact k_retA X5 hx hlk (by decide) (by decide) hret rfl rfl (hb hby d4_39) ⟨a3, rfl, N5, Kp7, G8⟩
  · refine k_lloadN X0 hx (q := 13) rfl (hb hby d4_12) rfl ?_
    refine k_ldc2J X0 hx hZ (v := (127 : Int64)) hown (hw _ (List.mem_of_getElem? (i := 39) rfl)) (q := 16) rfl (hb hby d4_13) ?_
    refine k_lcmp_gt X0 hx (q1 := 31) (q := 20) (by decide) (by decide) rfl (hb hby d4_16) (hb hby d4_17) (fun hc2 => ?_) (fun hc2 => ?_)
    · refine k_new X0 hx hZ hown (hw _ (List.mem_of_getElem? (i := 40) rfl)) (hw _ (List.mem_of_getElem? (i := 41) rfl)) (hw _ (List.mem_of_getElem? (i := 36) rfl)) e0 (q := 34) rfl (hb hby d4_31) (by decide) (by decide) ?_
      intro T9 h9 a9 X9 e9 g9 E9 A9 D9
      have K9 := Keep.of_ext E9
      have F10 : Fld Z h9 a9 "java/lang/Long" "value" "J" (.long (0 : Int64)) := D9 (Or.inr (hw _ (List.mem_of_getElem? (i := 54) rfl))) (ty := .long) (by decide)
      refine k_dup X9 hx (q := 35) rfl (hb hby d4_34) rfl ?_
      refine k_lloadN X9 hx (q := 36) rfl (hb hby d4_35) rfl ?_
      have ge_a9 : n0 ≤ a9 := Nat.le_trans Z0 (Nat.le_of_eq g9.symm)
      refine k_callI X9 hx hZ (y := (⟨"java/lang/Long", "<init>", "(J)V"⟩ : MethodName)) hown rfl (hw _ (List.mem_of_getElem? (i := 42) rfl)) (hw _ (List.mem_of_getElem? (i := 43) rfl)) (hw _ (List.mem_of_getElem? (i := 36) rfl)) (hw _ (List.mem_of_getElem? (i := 45) rfl)) (by decide) 1 e9 (rm5 l Z a0 hw a9 x0 h9 n0 ge_a9 A9 F10) (by decide) (by decide) (by decide) (by decide) (by rw [hml]; rfl) (a := a9) (as := [(.long x0)]) (rest := [(.ref a9)]) pd_1 rfl (by first | exact Nat.le_refl _ | simp [Value.category]) (q := 39) rfl (hb hby d4_36) ?_
      rintro _ T11 L11 X11 ⟨rfl, N11q, K11⟩
      have N11 := Fr.app N0 N11q
      show End _ _ _ _ _ _ _ (T11.setTop (mkF m 39 #[.val (.long x0), .second, .val (.int (128 : Int32))] [(.ref a9)]))
      have Kp12 : Keep h0 h9 [] := Keep.trans (Keep.refl h0 []) K9 all0
      have Kp13 : Keep h0 T11.heap [] := Keep.trans Kp12 K11 (allS (Or.inr (Nat.le_trans (Keep.refl h0 []).1 (Nat.le_of_eq g9.symm))) all0)
      have G14 := (A9.keep K11)
      exact k_retA X11 hx hlk (by decide) (by decide) hret rfl rfl (hb hby d4_39) ⟨a9, rfl, N11, Kp13, G14⟩
    · refine k_getS X0 hx hZ (host := "") hown (Or.inl (hw _ (List.mem_of_getElem? (i := 58) rfl))) Via.refl e0 (v := (.ref ca)) (q := 23) rfl (hb hby d4_20) hS ?_
      intro T15 X15 e15
      refine k_lloadN X15 hx (q := 24) rfl (hb hby d4_23) rfl ?_
      refine k_l2i X15 hx (q := 25) rfl (hb hby d4_24) ?_
      refine k_sipush X15 hx (v := (128 : Int32)) rfl (q := 28) rfl (hb hby d4_25) ?_
      refine k_iadd X15 hx (q := 29) rfl (hb hby d4_28) ?_
      obtain ⟨i, hi, hix⟩ := own_slot hc1 hc2
      refine k_arR X15 hx hZ e15 (x := (.ref (cv i))) i (q := 30) rfl (hb hby d4_29) hC rfl hix hi rfl ?_
      exact k_retA X15 hx hlk (by decide) (by decide) hret rfl rfl (hb hby d4_30) ⟨cv i, rfl, N0, by rw [e15]; exact Keep.refl h0 [], by rw [e15]; exact hL i hi⟩
theorem own_eq_self (a0 : Int32) (a1 a2 a3 a4 a5 a6 : Int64) : own_eq a0 a1 a2 a3 a4 a5 a6 a0 a1 a2 a3 a4 a5 a6 = 1 := by simp only [own_eq, if_true]
theorem own_eq_comm (a0 b0 : Int32) (a1 a2 a3 a4 a5 a6 b1 b2 b3 b4 b5 b6 : Int64) : own_eq b0 b1 b2 b3 b4 b5 b6 a0 a1 a2 a3 a4 a5 a6 = own_eq a0 a1 a2 a3 a4 a5 a6 b0 b1 b2 b3 b4 b5 b6 := by
  simp only [own_eq, eq_comm]
theorem ef_0 (m : MethodId) (x0 : Int32) (x1 : Int64) (x2 : Int64) (x3 : Int64) (x4 : Int64) (x5 : Int32) : entryFrame m #[(.int x0), (.long x1), (.long x2), (.long x3), (.long x4), (.int x5)] maxLocals = mkF m 0 #[.val (.int x0), .val (.long x1), .second, .val (.long x2), .second, .val (.long x3), .second, .val (.long x4), .second, .val (.int x5), .unset, .unset, .unset, .unset, .unset, .unset, .unset, .unset, .unset, .unset, .unset, .unset, .unset, .unset, .unset, .unset, .unset, .unset, .unset, .unset, .unset, .unset, .unset, .unset, .unset, .unset, .unset, .unset, .unset, .unset, .unset, .unset, .unset] [] := by first | (simp [entryFrame, mkF, argsToLocals, Value.category, maxLocals]; done) | rfl
set_option maxRecDepth 65536 in
set_option maxHeartbeats 40000000 in
theorem rmL (l : Launch) (Z : State) (a0 : Array Value) (hw : ∀ d ∈ tables_1, d.before a0 Z = true) (x0 : Int32) (x1 : Int64) (x2 : Int64) (x3 : Int64) (x4 : Int64) (x5 : Int32) (h0 : Heap) (n0 : Nat) (Z0 : n0 ≤ h0.size) (O0 : Old Z n0 h0) (ca : Addr) (cv : Nat → Addr) (hS : Sta Z Z.heap "java/lang/Long$LongCache" "cache" "[Ljava/lang/Long;" (.ref ca)) (hC : Ary Z Z.heap ca (.object "java/lang/Long") 256 (fun t => .ref (cv t))) (hL : ∀ i, i < 256 → Exa Z Z.heap (cv i) "java/lang/Long") :
    Con l Z x code maxLocals ret tables_1 room_1 #[(.int x0), (.long x1), (.long x2), (.long x3), (.long x4), (.int x5)] h0 (fun v h L => v = some (.int 1) ∧ Fr n0 L) := by
  refine Con.of (plainFor_of_name pn_3) ?_
  intro p e s m below meth c s₁ X0 hx hby hml hown hnm hret hlk hZ e0
  refine End.cast ?_ (ef_0 m x0 x1 x2 x3 x4 x5)
  have N0 := Fr.nil n0
  refine k_lloadN X0 hx (q := 1) rfl (hb hby at_0) rfl ?_
  refine k_lload X0 hx (q := 3) rfl (hb hby at_1) rfl ?_
  refine k_ladd X0 hx (q := 4) rfl (hb hby at_3) ?_
  refine k_lstore X0 hx (L' := #[.val (.int x0), .val (.long x1), .second, .val (.long x2), .second, .val (.long x3), .second, .val (.long x4), .second, .val (.int x5), .val (.long (x1 + x3)), .second, .unset, .unset, .unset, .unset, .unset, .unset, .unset, .unset, .unset, .unset, .unset, .unset, .unset, .unset, .unset, .unset, .unset, .unset, .unset, .unset, .unset, .unset, .unset, .unset, .unset, .unset, .unset, .unset, .unset, .unset, .unset]) (q := 6) rfl (hb hby at_4) rfl ?_
  refine k_lloadN X0 hx (q := 7) rfl (hb hby at_6) rfl ?_
  refine k_lstore X0 hx (L' := #[.val (.int x0), .val (.long x1), .second, .val (.long x2), .second, .val (.long x3), .second, .val (.long x4), .second, .val (.int x5), .val (.long (x1 + x3)), .second, .val (.long x2), .second, .unset, .unset, .unset, .unset, .unset, .unset, .unset, .unset, .unset, .unset, .unset, .unset, .unset, .unset, .unset, .unset, .unset, .unset, .unset, .unset, .unset, .unset, .unset, .unset, .unset, .unset, .unset, .unset, .unset]) (q := 9) rfl (hb hby at_7) rfl ?_
  refine k_lload X0 hx (q := 11) rfl (hb hby at_9) rfl ?_
  refine k_lstore X0 hx (L' := #[.val (.int x0), .val (.long x1), .second, .val (.long x2), .second, .val (.long x3), .second, .val (.long x4), .second, .val (.int x5), .val (.long (x1 + x3)), .second, .val (.long x2), .second, .val (.long x3), .second, .unset, .unset, .unset, .unset, .unset, .unset, .unset, .unset, .unset, .unset, .unset, .unset, .unset, .unset, .unset, .unset, .unset, .unset, .unset, .unset, .unset, .unset, .unset, .unset, .unset, .unset, .unset]) (q := 13) rfl (hb hby at_11) rfl ?_
  refine k_lloadN X0 hx (q := 14) rfl (hb hby at_13) rfl ?_
  refine k_lstore X0 hx (L' := #[.val (.int x0), .val (.long x1), .second, .val (.long x2), .second, .val (.long x3), .second, .val (.long x4), .second, .val (.int x5), .val (.long (x1 + x3)), .second, .val (.long x2), .second, .val (.long x3), .second, .val (.long x1), .second, .unset, .unset, .unset, .unset, .unset, .unset, .unset, .unset, .unset, .unset, .unset, .unset, .unset, .unset, .unset, .unset, .unset, .unset, .unset, .unset, .unset, .unset, .unset, .unset, .unset]) (q := 16) rfl (hb hby at_14) rfl ?_
  refine k_lloadN X0 hx (q := 17) rfl (hb hby at_16) rfl ?_
  refine k_lload X0 hx (q := 19) rfl (hb hby at_17) rfl ?_
  refine k_ladd X0 hx (q := 20) rfl (hb hby at_19) ?_
  refine k_lstore X0 hx (L' := #[.val (.int x0), .val (.long x1), .second, .val (.long x2), .second, .val (.long x3), .second, .val (.long x4), .second, .val (.int x5), .val (.long (x1 + x3)), .second, .val (.long x2), .second, .val (.long x3), .second, .val (.long x1), .second, .val (.long (x2 + x3)), .second, .unset, .unset, .unset, .unset, .unset, .unset, .unset, .unset, .unset, .unset, .unset, .unset, .unset, .unset, .unset, .unset, .unset, .unset, .unset, .unset, .unset, .unset, .unset]) (q := 22) rfl (hb hby at_20) rfl ?_
  refine k_lloadN X0 hx (q := 23) rfl (hb hby at_22) rfl ?_
  refine k_lload X0 hx (q := 25) rfl (hb hby at_23) rfl ?_
  refine k_lsub X0 hx (q := 26) rfl (hb hby at_25) ?_
  refine k_lstore X0 hx (L' := #[.val (.int x0), .val (.long x1), .second, .val (.long x2), .second, .val (.long x3), .second, .val (.long x4), .second, .val (.int x5), .val (.long (x1 + x3)), .second, .val (.long x2), .second, .val (.long x3), .second, .val (.long x1), .second, .val (.long (x2 + x3)), .second, .val (.long (x2 - x3)), .second, .unset, .unset, .unset, .unset, .unset, .unset, .unset, .unset, .unset, .unset, .unset, .unset, .unset, .unset, .unset, .unset, .unset, .unset, .unset, .unset, .unset]) (q := 28) rfl (hb hby at_26) rfl ?_
  refine k_lloadN X0 hx (q := 29) rfl (hb hby at_28) rfl ?_
  refine k_lloadN X0 hx (q := 30) rfl (hb hby at_29) rfl ?_
  refine k_lxor X0 hx (q := 31) rfl (hb hby at_30) ?_
  refine k_lstore X0 hx (L' := #[.val (.int x0), .val (.long x1), .second, .val (.long x2), .second, .val (.long x3), .second, .val (.long x4), .second, .val (.int x5), .val (.long (x1 + x3)), .second, .val (.long x2), .second, .val (.long x3), .second, .val (.long x1), .second, .val (.long (x2 + x3)), .second, .val (.long (x2 - x3)), .second, .val (.long (x1 ^^^ x2)), .second, .unset, .unset, .unset, .unset, .unset, .unset, .unset, .unset, .unset, .unset, .unset, .unset, .unset, .unset, .unset, .unset, .unset, .unset, .unset]) (q := 33) rfl (hb hby at_31) rfl ?_
  refine k_iload X0 hx (q := 35) rfl (hb hby at_33) rfl ?_
  refine k_ldcI X0 hx hZ (v := (65535 : Int32)) hown (hw _ (List.mem_of_getElem? (i := 0) rfl)) (q := 37) rfl (hb hby at_35) ?_
  refine k_iand X0 hx (q := 38) rfl (hb hby at_37) ?_
  refine k_bipush X0 hx (v := (10 : Int32)) rfl (q := 40) rfl (hb hby at_38) ?_
  refine k_irem X0 hx (q := 41) rfl (hb hby at_40) (by decide) ?_
  refine k_istore X0 hx (L' := #[.val (.int x0), .val (.long x1), .second, .val (.long x2), .second, .val (.long x3), .second, .val (.long x4), .second, .val (.int x5), .val (.long (x1 + x3)), .second, .val (.long x2), .second, .val (.long x3), .second, .val (.long x1), .second, .val (.long (x2 + x3)), .second, .val (.long (x2 - x3)), .second, .val (.long (x1 ^^^ x2)), .second, .val (.int ((x5 &&& (65535 : Int32)) % (10 : Int32))), .unset, .unset, .unset, .unset, .unset, .unset, .unset, .unset, .unset, .unset, .unset, .unset, .unset, .unset, .unset, .unset, .unset, .unset]) (q := 43) rfl (hb hby at_41) rfl ?_
  generalize hk : ((x5 &&& (65535 : Int32)) % (10 : Int32)) = k
  refine k_iloadN X0 hx (q := 44) rfl (hb hby at_43) rfl ?_
  refine k_istore X0 hx (L' := #[.val (.int x0), .val (.long x1), .second, .val (.long x2), .second, .val (.long x3), .second, .val (.long x4), .second, .val (.int x5), .val (.long (x1 + x3)), .second, .val (.long x2), .second, .val (.long x3), .second, .val (.long x1), .second, .val (.long (x2 + x3)), .second, .val (.long (x2 - x3)), .second, .val (.long (x1 ^^^ x2)), .second, .val (.int k), .val (.int x0), .unset, .unset, .unset, .unset, .unset, .unset, .unset, .unset, .unset, .unset, .unset, .unset, .unset, .unset, .unset, .unset, .unset]) (q := 46) rfl (hb hby at_44) rfl ?_
  refine k_lload X0 hx (q := 48) rfl (hb hby at_46) rfl ?_
  refine k_lstore X0 hx (L' := #[.val (.int x0), .val (.long x1), .second, .val (.long x2), .second, .val (.long x3), .second, .val (.long x4), .second, .val (.int x5), .val (.long (x1 + x3)), .second, .val (.long x2), .second, .val (.long x3), .second, .val (.long x1), .second, .val (.long (x2 + x3)), .second, .val (.long (x2 - x3)), .second, .val (.long (x1 ^^^ x2)), .second, .val (.int k), .val (.int x0), .val (.long (x1 + x3)), .second, .unset, .unset, .unset, .unset, .unset, .unset, .unset, .unset, .unset, .unset, .unset, .unset, .unset, .unset, .unset]) (q := 50) rfl (hb hby at_48) rfl ?_
  refine k_lload X0 hx (q := 52) rfl (hb hby at_50) rfl ?_
  refine k_lstore X0 hx (L' := #[.val (.int x0), .val (.long x1), .second, .val (.long x2), .second, .val (.long x3), .second, .val (.long x4), .second, .val (.int x5), .val (.long (x1 + x3)), .second, .val (.long x2), .second, .val (.long x3), .second, .val (.long x1), .second, .val (.long (x2 + x3)), .second, .val (.long (x2 - x3)), .second, .val (.long (x1 ^^^ x2)), .second, .val (.int k), .val (.int x0), .val (.long (x1 + x3)), .second, .val (.long x2), .second, .unset, .unset, .unset, .unset, .unset, .unset, .unset, .unset, .unset, .unset, .unset, .unset, .unset]) (q := 54) rfl (hb hby at_52) rfl ?_
  refine k_lload X0 hx (q := 56) rfl (hb hby at_54) rfl ?_
  refine k_lstore X0 hx (L' := #[.val (.int x0), .val (.long x1), .second, .val (.long x2), .second, .val (.long x3), .second, .val (.long x4), .second, .val (.int x5), .val (.long (x1 + x3)), .second, .val (.long x2), .second, .val (.long x3), .second, .val (.long x1), .second, .val (.long (x2 + x3)), .second, .val (.long (x2 - x3)), .second, .val (.long (x1 ^^^ x2)), .second, .val (.int k), .val (.int x0), .val (.long (x1 + x3)), .second, .val (.long x2), .second, .val (.long x3), .second, .unset, .unset, .unset, .unset, .unset, .unset, .unset, .unset, .unset, .unset, .unset]) (q := 58) rfl (hb hby at_56) rfl ?_
  refine k_lload X0 hx (q := 60) rfl (hb hby at_58) rfl ?_
  refine k_lstore X0 hx (L' := #[.val (.int x0), .val (.long x1), .second, .val (.long x2), .second, .val (.long x3), .second, .val (.long x4), .second, .val (.int x5), .val (.long (x1 + x3)), .second, .val (.long x2), .second, .val (.long x3), .second, .val (.long x1), .second, .val (.long (x2 + x3)), .second, .val (.long (x2 - x3)), .second, .val (.long (x1 ^^^ x2)), .second, .val (.int k), .val (.int x0), .val (.long (x1 + x3)), .second, .val (.long x2), .second, .val (.long x3), .second, .val (.long x1), .second, .unset, .unset, .unset, .unset, .unset, .unset, .unset, .unset, .unset]) (q := 62) rfl (hb hby at_60) rfl ?_
  refine k_lload X0 hx (q := 64) rfl (hb hby at_62) rfl ?_
  refine k_lstore X0 hx (L' := #[.val (.int x0), .val (.long x1), .second, .val (.long x2), .second, .val (.long x3), .second, .val (.long x4), .second, .val (.int x5), .val (.long (x1 + x3)), .second, .val (.long x2), .second, .val (.long x3), .second, .val (.long x1), .second, .val (.long (x2 + x3)), .second, .val (.long (x2 - x3)), .second, .val (.long (x1 ^^^ x2)), .second, .val (.int k), .val (.int x0), .val (.long (x1 + x3)), .second, .val (.long x2), .second, .val (.long x3), .second, .val (.long x1), .second, .val (.long (x2 + x3)), .second, .unset, .unset, .unset, .unset, .unset, .unset, .unset]) (q := 66) rfl (hb hby at_64) rfl ?_
  refine k_lload X0 hx (q := 68) rfl (hb hby at_66) rfl ?_
  refine k_lstore X0 hx (L' := #[.val (.int x0), .val (.long x1), .second, .val (.long x2), .second, .val (.long x3), .second, .val (.long x4), .second, .val (.int x5), .val (.long (x1 + x3)), .second, .val (.long x2), .second, .val (.long x3), .second, .val (.long x1), .second, .val (.long (x2 + x3)), .second, .val (.long (x2 - x3)), .second, .val (.long (x1 ^^^ x2)), .second, .val (.int k), .val (.int x0), .val (.long (x1 + x3)), .second, .val (.long x2), .second, .val (.long x3), .second, .val (.long x1), .second, .val (.long (x2 + x3)), .second, .val (.long (x2 - x3)), .second, .unset, .unset, .unset, .unset, .unset]) (q := 70) rfl (hb hby at_68) rfl ?_
  refine k_lload X0 hx (q := 72) rfl (hb hby at_70) rfl ?_
  refine k_lstore X0 hx (L' := #[.val (.int x0), .val (.long x1), .second, .val (.long x2), .second, .val (.long x3), .second, .val (.long x4), .second, .val (.int x5), .val (.long (x1 + x3)), .second, .val (.long x2), .second, .val (.long x3), .second, .val (.long x1), .second, .val (.long (x2 + x3)), .second, .val (.long (x2 - x3)), .second, .val (.long (x1 ^^^ x2)), .second, .val (.int k), .val (.int x0), .val (.long (x1 + x3)), .second, .val (.long x2), .second, .val (.long x3), .second, .val (.long x1), .second, .val (.long (x2 + x3)), .second, .val (.long (x2 - x3)), .second, .val (.long (x1 ^^^ x2)), .second, .unset, .unset, .unset]) (q := 74) rfl (hb hby at_72) rfl ?_
  refine k_iconst X0 hx (v := (1 : Int32)) rfl (q := 75) rfl (hb hby at_74) ?_
  refine k_istore X0 hx (L' := #[.val (.int x0), .val (.long x1), .second, .val (.long x2), .second, .val (.long x3), .second, .val (.long x4), .second, .val (.int x5), .val (.long (x1 + x3)), .second, .val (.long x2), .second, .val (.long x3), .second, .val (.long x1), .second, .val (.long (x2 + x3)), .second, .val (.long (x2 - x3)), .second, .val (.long (x1 ^^^ x2)), .second, .val (.int k), .val (.int x0), .val (.long (x1 + x3)), .second, .val (.long x2), .second, .val (.long x3), .second, .val (.long x1), .second, .val (.long (x2 + x3)), .second, .val (.long (x2 - x3)), .second, .val (.long (x1 ^^^ x2)), .second, .val (.int (1 : Int32)), .unset, .unset]) (q := 77) rfl (hb hby at_75) rfl ?_
  have J1 : ∀ (i2 : Int32) (l2 : Int64) (n2 : Int64) (s2 : Int64) (r2 : Int64) (p2 : Int64) (e2 : Int64) (t2 : Int64) (z : Int32), (own_eq x0 x2 x3 x1 (x2 + x3) (x2 - x3) (x1 ^^^ x2) i2 n2 s2 r2 p2 e2 t2 = z) → End p e below s (fun v h L => v = some (.int 1) ∧ Fr n0 L) room_1.cells room_1.slots (s₁.setTop (mkF m 292 #[.val (.int x0), .val (.long x1), .second, .val (.long x2), .second, .val (.long x3), .second, .val (.long x4), .second, .val (.int x5), .val (.long (x1 + x3)), .second, .val (.long x2), .second, .val (.long x3), .second, .val (.long x1), .second, .val (.long (x2 + x3)), .second, .val (.long (x2 - x3)), .second, .val (.long (x1 ^^^ x2)), .second, .val (.int k), .val (.int i2), .val (.long l2), .second, .val (.long n2), .second, .val (.long s2), .second, .val (.long r2), .second, .val (.long p2), .second, .val (.long e2), .second, .val (.long t2), .second, .val (.int z), .unset, .unset] [])) := by
    intro i2 l2 n2 s2 r2 p2 e2 t2 z hz
    refine k_new X0 hx hZ hown (hw _ (List.mem_of_getElem? (i := 1) rfl)) (hw _ (List.mem_of_getElem? (i := 2) rfl)) (hw _ (List.mem_of_getElem? (i := 3) rfl)) e0 (q := 295) rfl (hb hby at_292) (by decide) (by decide) ?_
    intro T17 h17 ja X17 e17 g17 E17 A17 D17
    have K17 := Keep.of_ext E17
    have F18 : Fld Z h17 ja "com/example/slotwright/slotwright/Job" "index" "I" (.int (0 : Int32)) := D17 (Or.inr (hw _ (List.mem_of_getElem? (i := 11) rfl))) (ty := .int) (by decide)
    have F19 : Fld Z h17 ja "com/example/slotwright/slotwright/Job" "line" "J" (.long (0 : Int64)) := D17 (Or.inr (hw _ (List.mem_of_getElem? (i := 13) rfl))) (ty := .long) (by decide)
    have F20 : Fld Z h17 ja "com/example/slotwright/slotwright/Job" "number" "J" (.long (0 : Int64)) := D17 (Or.inr (hw _ (List.mem_of_getElem? (i := 15) rfl))) (ty := .long) (by decide)
    have F21 : Fld Z h17 ja "com/example/slotwright/slotwright/Job" "submit" "J" (.long (0 : Int64)) := D17 (Or.inr (hw _ (List.mem_of_getElem? (i := 17) rfl))) (ty := .long) (by decide)
    have F22 : Fld Z h17 ja "com/example/slotwright/slotwright/Job" "runtime" "J" (.long (0 : Int64)) := D17 (Or.inr (hw _ (List.mem_of_getElem? (i := 19) rfl))) (ty := .long) (by decide)
    have F23 : Fld Z h17 ja "com/example/slotwright/slotwright/Job" "processors" "J" (.long (0 : Int64)) := D17 (Or.inr (hw _ (List.mem_of_getElem? (i := 21) rfl))) (ty := .long) (by decide)
    have F24 : Fld Z h17 ja "com/example/slotwright/slotwright/Job" "estimate" "J" (.long (0 : Int64)) := D17 (Or.inr (hw _ (List.mem_of_getElem? (i := 23) rfl))) (ty := .long) (by decide)
    have F25 : Fld Z h17 ja "com/example/slotwright/slotwright/Job" "partition" "J" (.long (0 : Int64)) := D17 (Or.inr (hw _ (List.mem_of_getElem? (i := 25) rfl))) (ty := .long) (by decide)
    refine k_dup X17 hx (q := 296) rfl (hb hby at_295) rfl ?_
    refine k_iloadN X17 hx (q := 297) rfl (hb hby at_296) rfl ?_
    refine k_lload X17 hx (q := 299) rfl (hb hby at_297) rfl ?_
    refine k_lload X17 hx (q := 301) rfl (hb hby at_299) rfl ?_
    refine k_lload X17 hx (q := 303) rfl (hb hby at_301) rfl ?_
    refine k_lload X17 hx (q := 305) rfl (hb hby at_303) rfl ?_
    refine k_lload X17 hx (q := 307) rfl (hb hby at_305) rfl ?_
    refine k_lload X17 hx (q := 309) rfl (hb hby at_307) rfl ?_
    refine k_lload X17 hx (q := 311) rfl (hb hby at_309) rfl ?_
    have ge_ja : n0 ≤ ja := Nat.le_trans Z0 (Nat.le_of_eq g17.symm)
    have Sz26 : n0 ≤ h17.size := Nat.le_trans Z0 K17.1
    refine k_callI X17 hx hZ (y := (⟨"com/example/slotwright/slotwright/Job", "<init>", "(IJJJJJJJ)V"⟩ : MethodName)) hown rfl (hw _ (List.mem_of_getElem? (i := 4) rfl)) (hw _ (List.mem_of_getElem? (i := 5) rfl)) (hw _ (List.mem_of_getElem? (i := 3) rfl)) (hw _ (List.mem_of_getElem? (i := 6) rfl)) (by decide) 1 e17 (rm1 l Z a0 hw ja x0 (x1 + x3) x2 x3 x1 (x2 + x3) (x2 - x3) (x1 ^^^ x2) h17 n0 Sz26 ge_ja A17 F18 F19 F20 F21 F22 F23 F24 F25) (by decide) (by decide) (by decide) (by decide) (by rw [hml]; rfl) (a := ja) (as := [(.int x0), (.long (x1 + x3)), (.long x2), (.long x3), (.long x1), (.long (x2 + x3)), (.long (x2 - x3)), (.long (x1 ^^^ x2))]) (rest := [(.ref ja)]) pd_2 rfl (by first | exact Nat.le_refl _ | simp [Value.category]) (q := 314) rfl (hb hby at_311) ?_
    rintro _ T27 L27 X27 ⟨rfl, N27q, K27, F270, F271, F272, F273, F274, F275, F276, F277⟩
    have N27 := Fr.app N0 N27q
    show End _ _ _ _ _ _ _ (T27.setTop (mkF m 314 #[.val (.int x0), .val (.long x1), .second, .val (.long x2), .second, .val (.long x3), .second, .val (.long x4), .second, .val (.int x5), .val (.long (x1 + x3)), .second, .val (.long x2), .second, .val (.long x3), .second, .val (.long x1), .second, .val (.long (x2 + x3)), .second, .val (.long (x2 - x3)), .second, .val (.long (x1 ^^^ x2)), .second, .val (.int k), .val (.int i2), .val (.long l2), .second, .val (.long n2), .second, .val (.long s2), .second, .val (.long r2), .second, .val (.long p2), .second, .val (.long e2), .second, .val (.long t2), .second, .val (.int z), .unset, .unset] [(.ref ja)]))
    refine k_astore X27 hx (L' := #[.val (.int x0), .val (.long x1), .second, .val (.long x2), .second, .val (.long x3), .second, .val (.long x4), .second, .val (.int x5), .val (.long (x1 + x3)), .second, .val (.long x2), .second, .val (.long x3), .second, .val (.long x1), .second, .val (.long (x2 + x3)), .second, .val (.long (x2 - x3)), .second, .val (.long (x1 ^^^ x2)), .second, .val (.int k), .val (.int i2), .val (.long l2), .second, .val (.long n2), .second, .val (.long s2), .second, .val (.long r2), .second, .val (.long p2), .second, .val (.long e2), .second, .val (.long t2), .second, .val (.int z), .val (.ref ja), .unset]) (q := 316) rfl (hb hby at_314) rfl rfl ?_
    refine k_iload X27 hx (q := 318) rfl (hb hby at_316) rfl ?_
    refine k_bipush X27 hx (v := (9 : Int32)) rfl (q := 320) rfl (hb hby at_318) ?_
    refine k_icmp_ne X27 hx (q1 := 368) (q := 323) (by decide) (by decide) rfl (hb hby at_320) (fun hc28 => ?_) (fun hc28 => ?_)
    · refine k_new X27 hx hZ hown (hw _ (List.mem_of_getElem? (i := 1) rfl)) (hw _ (List.mem_of_getElem? (i := 2) rfl)) (hw _ (List.mem_of_getElem? (i := 3) rfl)) rfl (q := 371) rfl (hb hby at_368) (by decide) (by decide) ?_
      intro T51 h51 jb X51 e51 g51 E51 A51 D51
      have K51 := Keep.of_ext E51
      have F52 : Fld Z h51 jb "com/example/slotwright/slotwright/Job" "index" "I" (.int (0 : Int32)) := D51 (Or.inr (hw _ (List.mem_of_getElem? (i := 11) rfl))) (ty := .int) (by decide)
      have F53 : Fld Z h51 jb "com/example/slotwright/slotwright/Job" "line" "J" (.long (0 : Int64)) := D51 (Or.inr (hw _ (List.mem_of_getElem? (i := 13) rfl))) (ty := .long) (by decide)
      have F54 : Fld Z h51 jb "com/example/slotwright/slotwright/Job" "number" "J" (.long (0 : Int64)) := D51 (Or.inr (hw _ (List.mem_of_getElem? (i := 15) rfl))) (ty := .long) (by decide)
      have F55 : Fld Z h51 jb "com/example/slotwright/slotwright/Job" "submit" "J" (.long (0 : Int64)) := D51 (Or.inr (hw _ (List.mem_of_getElem? (i := 17) rfl))) (ty := .long) (by decide)
      have F56 : Fld Z h51 jb "com/example/slotwright/slotwright/Job" "runtime" "J" (.long (0 : Int64)) := D51 (Or.inr (hw _ (List.mem_of_getElem? (i := 19) rfl))) (ty := .long) (by decide)
      have F57 : Fld Z h51 jb "com/example/slotwright/slotwright/Job" "processors" "J" (.long (0 : Int64)) := D51 (Or.inr (hw _ (List.mem_of_getElem? (i := 21) rfl))) (ty := .long) (by decide)
      have F58 : Fld Z h51 jb "com/example/slotwright/slotwright/Job" "estimate" "J" (.long (0 : Int64)) := D51 (Or.inr (hw _ (List.mem_of_getElem? (i := 23) rfl))) (ty := .long) (by decide)
      have F59 : Fld Z h51 jb "com/example/slotwright/slotwright/Job" "partition" "J" (.long (0 : Int64)) := D51 (Or.inr (hw _ (List.mem_of_getElem? (i := 25) rfl))) (ty := .long) (by decide)
      refine k_dup X51 hx (q := 372) rfl (hb hby at_371) rfl ?_
      refine k_iload X51 hx (q := 374) rfl (hb hby at_372) rfl ?_
      refine k_lload X51 hx (q := 376) rfl (hb hby at_374) rfl ?_
      refine k_lload X51 hx (q := 378) rfl (hb hby at_376) rfl ?_
      refine k_lload X51 hx (q := 380) rfl (hb hby at_378) rfl ?_
      refine k_lload X51 hx (q := 382) rfl (hb hby at_380) rfl ?_
      refine k_lload X51 hx (q := 384) rfl (hb hby at_382) rfl ?_
      refine k_lload X51 hx (q := 386) rfl (hb hby at_384) rfl ?_
      refine k_lload X51 hx (q := 388) rfl (hb hby at_386) rfl ?_
      have Sz60 : n0 ≤ T27.heap.size := Nat.le_trans Sz26 K27.1
      have ge_jb : n0 ≤ jb := Nat.le_trans Sz60 (Nat.le_of_eq g51.symm)
      have Sz61 : n0 ≤ h51.size := Nat.le_trans Sz60 K51.1
      refine k_callI X51 hx hZ (y := (⟨"com/example/slotwright/slotwright/Job", "<init>", "(IJJJJJJJ)V"⟩ : MethodName)) hown rfl (hw _ (List.mem_of_getElem? (i := 4) rfl)) (hw _ (List.mem_of_getElem? (i := 5) rfl)) (hw _ (List.mem_of_getElem? (i := 3) rfl)) (hw _ (List.mem_of_getElem? (i := 6) rfl)) (by decide) 1 e51 (rm1 l Z a0 hw jb i2 l2 n2 s2 r2 p2 e2 t2 h51 n0 Sz61 ge_jb A51 F52 F53 F54 F55 F56 F57 F58 F59) (by decide) (by decide) (by decide) (by decide) (by rw [hml]; rfl) (a := jb) (as := [(.int i2), (.long l2), (.long n2), (.long s2), (.long r2), (.long p2), (.long e2), (.long t2)]) (rest := [(.ref jb)]) pd_2 rfl (by first | exact Nat.le_refl _ | simp [Value.category]) (q := 391) rfl (hb hby at_388) ?_
      rintro _ T62 L62 X62 ⟨rfl, N62q, K62, F620, F621, F622, F623, F624, F625, F626, F627⟩
      have N62 := Fr.app N27 N62q
      show End _ _ _ _ _ _ _ (T62.setTop (mkF m 391 #[.val (.int x0), .val (.long x1), .second, .val (.long x2), .second, .val (.long x3), .second, .val (.long x4), .second, .val (.int x5), .val (.long (x1 + x3)), .second, .val (.long x2), .second, .val (.long x3), .second, .val (.long x1), .second, .val (.long (x2 + x3)), .second, .val (.long (x2 - x3)), .second, .val (.long (x1 ^^^ x2)), .second, .val (.int k), .val (.int i2), .val (.long l2), .second, .val (.long n2), .second, .val (.long s2), .second, .val (.long r2), .second, .val (.long p2), .second, .val (.long e2), .second, .val (.long t2), .second, .val (.int z), .val (.ref ja), .unset] [(.ref jb)]))
      refine k_astore X62 hx (L' := #[.val (.int x0), .val (.long x1), .second, .val (.long x2), .second, .val (.long x3), .second, .val (.long x4), .second, .val (.int x5), .val (.long (x1 + x3)), .second, .val (.long x2), .second, .val (.long x3), .second, .val (.long x1), .second, .val (.long (x2 + x3)), .second, .val (.long (x2 - x3)), .second, .val (.long (x1 ^^^ x2)), .second, .val (.int k), .val (.int i2), .val (.long l2), .second, .val (.long n2), .second, .val (.long s2), .second, .val (.long r2), .second, .val (.long p2), .second, .val (.long e2), .second, .val (.long t2), .second, .val (.int z), .val (.ref ja), .val (.ref jb)]) (q := 393) rfl (hb hby at_391) rfl rfl ?_
      refine k_aload X62 hx (q := 395) rfl (hb hby at_393) rfl rfl ?_
      refine k_aload X62 hx (q := 397) rfl (hb hby at_395) rfl rfl ?_
      have G63 := (A51.keep K62)
      have G64 := (A17.keep K27)
      have ne_ja_jb : ja ≠ jb := Nat.ne_of_lt (Nat.lt_of_lt_of_le (G64).lt (Nat.le_of_eq g51.symm))
      have G65 := ((F270.keep K51 nin0).keep K62 (ninS ne_ja_jb nin0))
      have G66 := ((F272.keep K51 nin0).keep K62 (ninS ne_ja_jb nin0))
      have G67 := ((F273.keep K51 nin0).keep K62 (ninS ne_ja_jb nin0))
      have G68 := ((F274.keep K51 nin0).keep K62 (ninS ne_ja_jb nin0))
      have G69 := ((F275.keep K51 nin0).keep K62 (ninS ne_ja_jb nin0))
      have G70 := ((F276.keep K51 nin0).keep K62 (ninS ne_ja_jb nin0))
      have G71 := ((F277.keep K51 nin0).keep K62 (ninS ne_ja_jb nin0))
      have G73 := ((G64.keep K51).keep K62)
      refine k_callV X62 hx hZ (y := (⟨"com/example/slotwright/slotwright/Job", "equals", "(Ljava/lang/Object;)Z"⟩ : MethodName)) (z := (⟨"com/example/slotwright/slotwright/Job", "equals", "(Ljava/lang/Object;)Z"⟩ : MethodName)) hown (hw _ (List.mem_of_getElem? (i := 26) rfl)) (hw _ (List.mem_of_getElem? (i := 27) rfl)) (notFace_of_selects (args := #[]) (mvT hZ (hw _ (List.mem_of_getElem? (i := 29) rfl)))) (hw _ (List.mem_of_getElem? (i := 29) rfl)) (hw _ (List.mem_of_getElem? (i := 28) rfl)) (hw _ (List.mem_of_getElem? (i := 30) rfl)) (hw _ (List.mem_of_getElem? (i := 3) rfl)) (by decide) G73 0 rfl (rm3 l Z a0 hw ja jb T62.heap n0 x0 i2 x2 x3 x1 (x2 + x3) (x2 - x3) (x1 ^^^ x2) n2 s2 r2 p2 e2 t2 G63 G65 F620 G66 F622 G67 F623 G68 F624 G69 F625 G70 F626 G71 F627) (by decide) (by decide) (by decide) (by decide) (by rw [hml]; rfl) (a := ja) (as := [(.ref jb)]) (rest := []) pd_3 rfl (by first | exact Nat.le_refl _ | simp [Value.category]) (q := 400) rfl (hb hby at_397) ?_
      rintro _ T72 L72 X72 ⟨rfl, N72q, e72⟩
      have N72 := Fr.app N62 N72q
      show End _ _ _ _ _ _ _ (T72.setTop (mkF m 400 #[.val (.int x0), .val (.long x1), .second, .val (.long x2), .second, .val (.long x3), .second, .val (.long x4), .second, .val (.int x5), .val (.long (x1 + x3)), .second, .val (.long x2), .second, .val (.long x3), .second, .val (.long x1), .second, .val (.long (x2 + x3)), .second, .val (.long (x2 - x3)), .second, .val (.long (x1 ^^^ x2)), .second, .val (.int k), .val (.int i2), .val (.long l2), .second, .val (.long n2), .second, .val (.long s2), .second, .val (.long r2), .second, .val (.long p2), .second, .val (.long e2), .second, .val (.long t2), .second, .val (.int z), .val (.ref ja), .val (.ref jb)] [(.int (own_eq x0 x2 x3 x1 (x2 + x3) (x2 - x3) (x1 ^^^ x2) i2 n2 s2 r2 p2 e2 t2))]))
      refine k_iload X72 hx (q := 402) rfl (hb hby at_400) rfl ?_
      refine k_icmp_ne X72 hx (q1 := 431) (q := 405) (by decide) (by decide) rfl (hb hby at_402) (fun hc => absurd hz hc) (fun _ => ?_)
      refine k_aload X72 hx (q := 407) rfl (hb hby at_405) rfl rfl ?_
      refine k_aload X72 hx (q := 409) rfl (hb hby at_407) rfl rfl ?_
      refine k_callV X72 hx hZ (y := (⟨"com/example/slotwright/slotwright/Job", "equals", "(Ljava/lang/Object;)Z"⟩ : MethodName)) (z := (⟨"com/example/slotwright/slotwright/Job", "equals", "(Ljava/lang/Object;)Z"⟩ : MethodName)) hown (hw _ (List.mem_of_getElem? (i := 26) rfl)) (hw _ (List.mem_of_getElem? (i := 27) rfl)) (notFace_of_selects (args := #[]) (mvT hZ (hw _ (List.mem_of_getElem? (i := 29) rfl)))) (hw _ (List.mem_of_getElem? (i := 29) rfl)) (hw _ (List.mem_of_getElem? (i := 28) rfl)) (hw _ (List.mem_of_getElem? (i := 30) rfl)) (hw _ (List.mem_of_getElem? (i := 3) rfl)) (by decide) G63 0 e72 (rm3 l Z a0 hw jb ja T62.heap n0 i2 x0 n2 s2 r2 p2 e2 t2 x2 x3 x1 (x2 + x3) (x2 - x3) (x1 ^^^ x2) G73 F620 G65 F622 G66 F623 G67 F624 G68 F625 G69 F626 G70 F627 G71) (by decide) (by decide) (by decide) (by decide) (by rw [hml]; rfl) (a := jb) (as := [(.ref ja)]) (rest := []) pd_3 rfl (by first | exact Nat.le_refl _ | simp [Value.category]) (q := 412) rfl (hb hby at_409) ?_
      rintro _ T75 L75 X75 ⟨rfl, N75q, e75⟩
      have N75 := Fr.app N72 N75q
      show End _ _ _ _ _ _ _ (T75.setTop (mkF m 412 #[.val (.int x0), .val (.long x1), .second, .val (.long x2), .second, .val (.long x3), .second, .val (.long x4), .second, .val (.int x5), .val (.long (x1 + x3)), .second, .val (.long x2), .second, .val (.long x3), .second, .val (.long x1), .second, .val (.long (x2 + x3)), .second, .val (.long (x2 - x3)), .second, .val (.long (x1 ^^^ x2)), .second, .val (.int k), .val (.int i2), .val (.long l2), .second, .val (.long n2), .second, .val (.long s2), .second, .val (.long r2), .second, .val (.long p2), .second, .val (.long e2), .second, .val (.long t2), .second, .val (.int z), .val (.ref ja), .val (.ref jb)] [(.int (own_eq i2 n2 s2 r2 p2 e2 t2 x0 x2 x3 x1 (x2 + x3) (x2 - x3) (x1 ^^^ x2)))]))
      refine k_iload X75 hx (q := 414) rfl (hb hby at_412) rfl ?_
      refine k_icmp_ne X75 hx (q1 := 431) (q := 417) (by decide) (by decide) rfl (hb hby at_414) (fun hc => absurd ((own_eq_comm _ _ _ _ _ _ _ _ _ _ _ _ _ _).trans hz) hc) (fun _ => ?_)
      refine k_aload X75 hx (q := 419) rfl (hb hby at_417) rfl rfl ?_
      refine k_aload X75 hx (q := 421) rfl (hb hby at_419) rfl rfl ?_
      refine k_callV X75 hx hZ (y := (⟨"com/example/slotwright/slotwright/Job", "equals", "(Ljava/lang/Object;)Z"⟩ : MethodName)) (z := (⟨"com/example/slotwright/slotwright/Job", "equals", "(Ljava/lang/Object;)Z"⟩ : MethodName)) hown (hw _ (List.mem_of_getElem? (i := 26) rfl)) (hw _ (List.mem_of_getElem? (i := 27) rfl)) (notFace_of_selects (args := #[]) (mvT hZ (hw _ (List.mem_of_getElem? (i := 29) rfl)))) (hw _ (List.mem_of_getElem? (i := 29) rfl)) (hw _ (List.mem_of_getElem? (i := 28) rfl)) (hw _ (List.mem_of_getElem? (i := 30) rfl)) (hw _ (List.mem_of_getElem? (i := 3) rfl)) (by decide) G73 0 e75 (rm3 l Z a0 hw ja ja T62.heap n0 x0 x0 x2 x3 x1 (x2 + x3) (x2 - x3) (x1 ^^^ x2) x2 x3 x1 (x2 + x3) (x2 - x3) (x1 ^^^ x2) G73 G65 G65 G66 G66 G67 G67 G68 G68 G69 G69 G70 G70 G71 G71) (by decide) (by decide) (by decide) (by decide) (by rw [hml]; rfl) (a := ja) (as := [(.ref ja)]) (rest := []) pd_3 rfl (by first | exact Nat.le_refl _ | simp [Value.category]) (q := 424) rfl (hb hby at_421) ?_
      rintro _ T77 L77 X77 ⟨rfl, N77q, e77⟩
      have N77 := Fr.app N75 N77q
      show End _ _ _ _ _ _ _ (T77.setTop (mkF m 424 #[.val (.int x0), .val (.long x1), .second, .val (.long x2), .second, .val (.long x3), .second, .val (.long x4), .second, .val (.int x5), .val (.long (x1 + x3)), .second, .val (.long x2), .second, .val (.long x3), .second, .val (.long x1), .second, .val (.long (x2 + x3)), .second, .val (.long (x2 - x3)), .second, .val (.long (x1 ^^^ x2)), .second, .val (.int k), .val (.int i2), .val (.long l2), .second, .val (.long n2), .second, .val (.long s2), .second, .val (.long r2), .second, .val (.long p2), .second, .val (.long e2), .second, .val (.long t2), .second, .val (.int z), .val (.ref ja), .val (.ref jb)] [(.int (own_eq x0 x2 x3 x1 (x2 + x3) (x2 - x3) (x1 ^^^ x2) x0 x2 x3 x1 (x2 + x3) (x2 - x3) (x1 ^^^ x2)))]))
      refine k_if_eq X77 hx (q1 := 431) (q := 427) (by decide) (by decide) rfl (hb hby at_424) (fun hc => absurd hc (by rw [own_eq_self]; decide)) (fun _ => ?_)
      refine k_iconst X77 hx (v := (1 : Int32)) rfl (q := 428) rfl (hb hby at_427) ?_
      refine k_goto X77 hx (q := 432) (by decide) (by decide) (hb hby at_428) ?_
      exact k_retN X77 hx (t := .boolean) hlk (by decide) (by decide) hret (by simp) (hb hby at_432) ⟨rfl, N77⟩
    · refine k_iload X27 hx (q := 325) rfl (hb hby at_323) rfl ?_
      refine k_ldcI X27 hx hZ (v := (65536 : Int32)) hown (hw _ (List.mem_of_getElem? (i := 33) rfl)) (q := 327) rfl (hb hby at_325) ?_
      refine k_iand X27 hx (q := 328) rfl (hb hby at_327) ?_
      refine k_if_eq X27 hx (q1 := 335) (q := 331) (by decide) (by decide) rfl (hb hby at_328) (fun hc29 => ?_) (fun hc29 => ?_)
      · refine k_lload X27 hx (q := 337) rfl (hb hby at_335) rfl ?_
        have Od35 : Old Z n0 h17 := Old.keep O0 K17 all0
        have Od36 : Old Z n0 T27.heap := Old.keep Od35 K27 (allS ge_ja all0)
        have Sz37 : n0 ≤ T27.heap.size := Nat.le_trans Sz26 K27.1
        refine k_callS X27 hx hZ (y := (⟨"java/lang/Long", "valueOf", "(J)Ljava/lang/Long;"⟩ : MethodName)) hown (hw _ (List.mem_of_getElem? (i := 34) rfl)) (hw _ (List.mem_of_getElem? (i := 35) rfl)) (hw _ (List.mem_of_getElem? (i := 36) rfl)) (hw _ (List.mem_of_getElem? (i := 37) rfl)) (by decide) 0 rfl (rm4 l Z a0 hw x4 T27.heap n0 Sz37 ca cv (hS.ext Od36.2) (hC.ext Od36.2) (fun i hi => (hL i hi).ext Od36.2)) (by decide) (by decide) (by decide) (by decide) (by rw [hml]; rfl) (as := [(.long x4)]) (rest := []) pd_4 rfl (by first | exact Nat.le_refl _ | simp [Value.category]) (q := 340) rfl (hb hby at_337) ?_
        rintro _ T38 L38 X38 ⟨lg, rfl, N38q, K38, E38⟩
        have N38 := Fr.app N27 N38q
        show End _ _ _ _ _ _ _ (T38.setTop (mkF m 340 #[.val (.int x0), .val (.long x1), .second, .val (.long x2), .second, .val (.long x3), .second, .val (.long x4), .second, .val (.int x5), .val (.long (x1 + x3)), .second, .val (.long x2), .second, .val (.long x3), .second, .val (.long x1), .second, .val (.long (x2 + x3)), .second, .val (.long (x2 - x3)), .second, .val (.long (x1 ^^^ x2)), .second, .val (.int k), .val (.int i2), .val (.long l2), .second, .val (.long n2), .second, .val (.long s2), .second, .val (.long r2), .second, .val (.long p2), .second, .val (.long e2), .second, .val (.long t2), .second, .val (.int z), .val (.ref ja), .unset] [(.ref lg)]))
        refine k_astore X38 hx (L' := #[.val (.int x0), .val (.long x1), .second, .val (.long x2), .second, .val (.long x3), .second, .val (.long x4), .second, .val (.int x5), .val (.long (x1 + x3)), .second, .val (.long x2), .second, .val (.long x3), .second, .val (.long x1), .second, .val (.long (x2 + x3)), .second, .val (.long (x2 - x3)), .second, .val (.long (x1 ^^^ x2)), .second, .val (.int k), .val (.int i2), .val (.long l2), .second, .val (.long n2), .second, .val (.long s2), .second, .val (.long r2), .second, .val (.long p2), .second, .val (.long e2), .second, .val (.long t2), .second, .val (.int z), .val (.ref ja), .val (.ref lg)]) (q := 342) rfl (hb hby at_340) rfl rfl ?_
        refine k_aload X38 hx (q := 344) rfl (hb hby at_342) rfl rfl ?_
        refine k_aload X38 hx (q := 346) rfl (hb hby at_344) rfl rfl ?_
        have G40 := ((A17.keep K27).keep K38)
        refine k_callV X38 hx hZ (y := (⟨"com/example/slotwright/slotwright/Job", "equals", "(Ljava/lang/Object;)Z"⟩ : MethodName)) (z := (⟨"com/example/slotwright/slotwright/Job", "equals", "(Ljava/lang/Object;)Z"⟩ : MethodName)) hown (hw _ (List.mem_of_getElem? (i := 26) rfl)) (hw _ (List.mem_of_getElem? (i := 27) rfl)) (notFace_of_selects (args := #[]) (mvT hZ (hw _ (List.mem_of_getElem? (i := 29) rfl)))) (hw _ (List.mem_of_getElem? (i := 29) rfl)) (hw _ (List.mem_of_getElem? (i := 28) rfl)) (hw _ (List.mem_of_getElem? (i := 30) rfl)) (hw _ (List.mem_of_getElem? (i := 3) rfl)) (by decide) G40 0 rfl (rm3l l Z a0 hw ja lg T38.heap n0 E38) (by decide) (by decide) (by decide) (by decide) (by rw [hml]; rfl) (a := ja) (as := [(.ref lg)]) (rest := []) pd_3 rfl (by first | exact Nat.le_refl _ | simp [Value.category]) (q := 349) rfl (hb hby at_346) ?_
        rintro _ T39 L39 X39 ⟨rfl, N39q, e39⟩
        have N39 := Fr.app N38 N39q
        show End _ _ _ _ _ _ _ (T39.setTop (mkF m 349 #[.val (.int x0), .val (.long x1), .second, .val (.long x2), .second, .val (.long x3), .second, .val (.long x4), .second, .val (.int x5), .val (.long (x1 + x3)), .second, .val (.long x2), .second, .val (.long x3), .second, .val (.long x1), .second, .val (.long (x2 + x3)), .second, .val (.long (x2 - x3)), .second, .val (.long (x1 ^^^ x2)), .second, .val (.int k), .val (.int i2), .val (.long l2), .second, .val (.long n2), .second, .val (.long s2), .second, .val (.long r2), .second, .val (.long p2), .second, .val (.long e2), .second, .val (.long t2), .second, .val (.int z), .val (.ref ja), .val (.ref lg)] [(.int (0 : Int32))]))
        refine k_if_ne X39 hx (q1 := 366) (q := 352) (by decide) (by decide) rfl (hb hby at_349) (fun hc => absurd rfl hc) (fun _ => ?_)
        refine k_aload X39 hx (q := 354) rfl (hb hby at_352) rfl rfl ?_
        refine k_aload X39 hx (q := 356) rfl (hb hby at_354) rfl rfl ?_
        have G42 := (F270.keep K38 nin0)
        have G43 := (F272.keep K38 nin0)
        have G44 := (F273.keep K38 nin0)
        have G45 := (F274.keep K38 nin0)
        have G46 := (F275.keep K38 nin0)
        have G47 := (F276.keep K38 nin0)
        have G48 := (F277.keep K38 nin0)
        refine k_callV X39 hx hZ (y := (⟨"com/example/slotwright/slotwright/Job", "equals", "(Ljava/lang/Object;)Z"⟩ : MethodName)) (z := (⟨"com/example/slotwright/slotwright/Job", "equals", "(Ljava/lang/Object;)Z"⟩ : MethodName)) hown (hw _ (List.mem_of_getElem? (i := 26) rfl)) (hw _ (List.mem_of_getElem? (i := 27) rfl)) (notFace_of_selects (args := #[]) (mvT hZ (hw _ (List.mem_of_getElem? (i := 29) rfl)))) (hw _ (List.mem_of_getElem? (i := 29) rfl)) (hw _ (List.mem_of_getElem? (i := 28) rfl)) (hw _ (List.mem_of_getElem? (i := 30) rfl)) (hw _ (List.mem_of_getElem? (i := 3) rfl)) (by decide) G40 0 e39 (rm3 l Z a0 hw ja ja T38.heap n0 x0 x0 x2 x3 x1 (x2 + x3) (x2 - x3) (x1 ^^^ x2) x2 x3 x1 (x2 + x3) (x2 - x3) (x1 ^^^ x2) G40 G42 G42 G43 G43 G44 G44 G45 G45 G46 G46 G47 G47 G48 G48) (by decide) (by decide) (by decide) (by decide) (by rw [hml]; rfl) (a := ja) (as := [(.ref ja)]) (rest := []) pd_3 rfl (by first | exact Nat.le_refl _ | simp [Value.category]) (q := 359) rfl (hb hby at_356) ?_
        rintro _ T49 L49 X49 ⟨rfl, N49q, e49⟩
        have N49 := Fr.app N39 N49q
        show End _ _ _ _ _ _ _ (T49.setTop (mkF m 359 #[.val (.int x0), .val (.long x1), .second, .val (.long x2), .second, .val (.long x3), .second, .val (.long x4), .second, .val (.int x5), .val (.long (x1 + x3)), .second, .val (.long x2), .second, .val (.long x3), .second, .val (.long x1), .second, .val (.long (x2 + x3)), .second, .val (.long (x2 - x3)), .second, .val (.long (x1 ^^^ x2)), .second, .val (.int k), .val (.int i2), .val (.long l2), .second, .val (.long n2), .second, .val (.long s2), .second, .val (.long r2), .second, .val (.long p2), .second, .val (.long e2), .second, .val (.long t2), .second, .val (.int z), .val (.ref ja), .val (.ref lg)] [(.int (own_eq x0 x2 x3 x1 (x2 + x3) (x2 - x3) (x1 ^^^ x2) x0 x2 x3 x1 (x2 + x3) (x2 - x3) (x1 ^^^ x2)))]))
        refine k_if_eq X49 hx (q1 := 366) (q := 362) (by decide) (by decide) rfl (hb hby at_359) (fun hc => absurd hc (by rw [own_eq_self]; decide)) (fun _ => ?_)
        refine k_iconst X49 hx (v := (1 : Int32)) rfl (q := 363) rfl (hb hby at_362) ?_
        refine k_goto X49 hx (q := 367) (by decide) (by decide) (hb hby at_363) ?_
        exact k_retN X49 hx (t := .boolean) hlk (by decide) (by decide) hret (by simp) (hb hby at_367) ⟨rfl, N49⟩
      · refine k_aconst_null X27 hx (q := 332) rfl (hb hby at_331) ?_
        refine k_goto X27 hx (q := 340) (by decide) (by decide) (hb hby at_332) ?_
        refine k_astore X27 hx (L' := #[.val (.int x0), .val (.long x1), .second, .val (.long x2), .second, .val (.long x3), .second, .val (.long x4), .second, .val (.int x5), .val (.long (x1 + x3)), .second, .val (.long x2), .second, .val (.long x3), .second, .val (.long x1), .second, .val (.long (x2 + x3)), .second, .val (.long (x2 - x3)), .second, .val (.long (x1 ^^^ x2)), .second, .val (.int k), .val (.int i2), .val (.long l2), .second, .val (.long n2), .second, .val (.long s2), .second, .val (.long r2), .second, .val (.long p2), .second, .val (.long e2), .second, .val (.long t2), .second, .val (.int z), .val (.ref ja), .val .null]) (q := 342) rfl (hb hby at_340) rfl rfl ?_
        refine k_aload X27 hx (q := 344) rfl (hb hby at_342) rfl rfl ?_
        refine k_aload X27 hx (q := 346) rfl (hb hby at_344) rfl rfl ?_
        have G31 := (A17.keep K27)
        refine k_callV X27 hx hZ (y := (⟨"com/example/slotwright/slotwright/Job", "equals", "(Ljava/lang/Object;)Z"⟩ : MethodName)) (z := (⟨"com/example/slotwright/slotwright/Job", "equals", "(Ljava/lang/Object;)Z"⟩ : MethodName)) hown (hw _ (List.mem_of_getElem? (i := 26) rfl)) (hw _ (List.mem_of_getElem? (i := 27) rfl)) (notFace_of_selects (args := #[]) (mvT hZ (hw _ (List.mem_of_getElem? (i := 29) rfl)))) (hw _ (List.mem_of_getElem? (i := 29) rfl)) (hw _ (List.mem_of_getElem? (i := 28) rfl)) (hw _ (List.mem_of_getElem? (i := 30) rfl)) (hw _ (List.mem_of_getElem? (i := 3) rfl)) (by decide) G31 0 rfl (rm3n l Z a0 hw ja T27.heap n0) (by decide) (by decide) (by decide) (by decide) (by rw [hml]; rfl) (a := ja) (as := [.null]) (rest := []) pd_3 rfl (by first | exact Nat.le_refl _ | simp [Value.category]) (q := 349) rfl (hb hby at_346) ?_
        rintro _ T30 L30 X30 ⟨rfl, N30q, e30⟩
        have N30 := Fr.app N27 N30q
        show End _ _ _ _ _ _ _ (T30.setTop (mkF m 349 #[.val (.int x0), .val (.long x1), .second, .val (.long x2), .second, .val (.long x3), .second, .val (.long x4), .second, .val (.int x5), .val (.long (x1 + x3)), .second, .val (.long x2), .second, .val (.long x3), .second, .val (.long x1), .second, .val (.long (x2 + x3)), .second, .val (.long (x2 - x3)), .second, .val (.long (x1 ^^^ x2)), .second, .val (.int k), .val (.int i2), .val (.long l2), .second, .val (.long n2), .second, .val (.long s2), .second, .val (.long r2), .second, .val (.long p2), .second, .val (.long e2), .second, .val (.long t2), .second, .val (.int z), .val (.ref ja), .val .null] [(.int (0 : Int32))]))
        refine k_if_ne X30 hx (q1 := 366) (q := 352) (by decide) (by decide) rfl (hb hby at_349) (fun hc => absurd rfl hc) (fun _ => ?_)
        refine k_aload X30 hx (q := 354) rfl (hb hby at_352) rfl rfl ?_
        refine k_aload X30 hx (q := 356) rfl (hb hby at_354) rfl rfl ?_
        refine k_callV X30 hx hZ (y := (⟨"com/example/slotwright/slotwright/Job", "equals", "(Ljava/lang/Object;)Z"⟩ : MethodName)) (z := (⟨"com/example/slotwright/slotwright/Job", "equals", "(Ljava/lang/Object;)Z"⟩ : MethodName)) hown (hw _ (List.mem_of_getElem? (i := 26) rfl)) (hw _ (List.mem_of_getElem? (i := 27) rfl)) (notFace_of_selects (args := #[]) (mvT hZ (hw _ (List.mem_of_getElem? (i := 29) rfl)))) (hw _ (List.mem_of_getElem? (i := 29) rfl)) (hw _ (List.mem_of_getElem? (i := 28) rfl)) (hw _ (List.mem_of_getElem? (i := 30) rfl)) (hw _ (List.mem_of_getElem? (i := 3) rfl)) (by decide) G31 0 e30 (rm3 l Z a0 hw ja ja T27.heap n0 x0 x0 x2 x3 x1 (x2 + x3) (x2 - x3) (x1 ^^^ x2) x2 x3 x1 (x2 + x3) (x2 - x3) (x1 ^^^ x2) G31 F270 F270 F272 F272 F273 F273 F274 F274 F275 F275 F276 F276 F277 F277) (by decide) (by decide) (by decide) (by decide) (by rw [hml]; rfl) (a := ja) (as := [(.ref ja)]) (rest := []) pd_3 rfl (by first | exact Nat.le_refl _ | simp [Value.category]) (q := 359) rfl (hb hby at_356) ?_
        rintro _ T33 L33 X33 ⟨rfl, N33q, e33⟩
        have N33 := Fr.app N30 N33q
        show End _ _ _ _ _ _ _ (T33.setTop (mkF m 359 #[.val (.int x0), .val (.long x1), .second, .val (.long x2), .second, .val (.long x3), .second, .val (.long x4), .second, .val (.int x5), .val (.long (x1 + x3)), .second, .val (.long x2), .second, .val (.long x3), .second, .val (.long x1), .second, .val (.long (x2 + x3)), .second, .val (.long (x2 - x3)), .second, .val (.long (x1 ^^^ x2)), .second, .val (.int k), .val (.int i2), .val (.long l2), .second, .val (.long n2), .second, .val (.long s2), .second, .val (.long r2), .second, .val (.long p2), .second, .val (.long e2), .second, .val (.long t2), .second, .val (.int z), .val (.ref ja), .val .null] [(.int (own_eq x0 x2 x3 x1 (x2 + x3) (x2 - x3) (x1 ^^^ x2) x0 x2 x3 x1 (x2 + x3) (x2 - x3) (x1 ^^^ x2)))]))
        refine k_if_eq X33 hx (q1 := 366) (q := 362) (by decide) (by decide) rfl (hb hby at_359) (fun hc => absurd hc (by rw [own_eq_self]; decide)) (fun _ => ?_)
        refine k_iconst X33 hx (v := (1 : Int32)) rfl (q := 363) rfl (hb hby at_362) ?_
        refine k_goto X33 hx (q := 367) (by decide) (by decide) (hb hby at_363) ?_
        exact k_retN X33 hx (t := .boolean) hlk (by decide) (by decide) hret (by simp) (hb hby at_367) ⟨rfl, N33⟩
  refine k_iload X0 hx (q := 79) rfl (hb hby at_77) rfl ?_
  refine k_if_ne X0 hx (q1 := 103) (q := 82) (by decide) (by decide) rfl (hb hby at_79) (fun hc2 => ?_) (fun hc2 => ?_)
  · refine k_iload X0 hx (q := 105) rfl (hb hby at_103) rfl ?_
    refine k_iconst X0 hx (v := (1 : Int32)) rfl (q := 106) rfl (hb hby at_105) ?_
    refine k_icmp_ne X0 hx (q1 := 119) (q := 109) (by decide) (by decide) rfl (hb hby at_106) (fun hc4 => ?_) (fun hc4 => ?_)
    · refine k_iload X0 hx (q := 121) rfl (hb hby at_119) rfl ?_
      refine k_iconst X0 hx (v := (2 : Int32)) rfl (q := 122) rfl (hb hby at_121) ?_
      refine k_icmp_ne X0 hx (q1 := 147) (q := 125) (by decide) (by decide) rfl (hb hby at_122) (fun hc5 => ?_) (fun hc5 => ?_)
      · refine k_iload X0 hx (q := 149) rfl (hb hby at_147) rfl ?_
        refine k_iconst X0 hx (v := (3 : Int32)) rfl (q := 150) rfl (hb hby at_149) ?_
        refine k_icmp_ne X0 hx (q1 := 175) (q := 153) (by decide) (by decide) rfl (hb hby at_150) (fun hc7 => ?_) (fun hc7 => ?_)
        · refine k_iload X0 hx (q := 177) rfl (hb hby at_175) rfl ?_
          refine k_iconst X0 hx (v := (4 : Int32)) rfl (q := 178) rfl (hb hby at_177) ?_
          refine k_icmp_ne X0 hx (q1 := 203) (q := 181) (by decide) (by decide) rfl (hb hby at_178) (fun hc9 => ?_) (fun hc9 => ?_)
          · refine k_iload X0 hx (q := 205) rfl (hb hby at_203) rfl ?_
            refine k_iconst X0 hx (v := (5 : Int32)) rfl (q := 206) rfl (hb hby at_205) ?_
            refine k_icmp_ne X0 hx (q1 := 231) (q := 209) (by decide) (by decide) rfl (hb hby at_206) (fun hc11 => ?_) (fun hc11 => ?_)
            · refine k_iload X0 hx (q := 233) rfl (hb hby at_231) rfl ?_
              refine k_bipush X0 hx (v := (6 : Int32)) rfl (q := 235) rfl (hb hby at_233) ?_
              refine k_icmp_ne X0 hx (q1 := 260) (q := 238) (by decide) (by decide) rfl (hb hby at_235) (fun hc13 => ?_) (fun hc13 => ?_)
              · refine k_iload X0 hx (q := 262) rfl (hb hby at_260) rfl ?_
                refine k_bipush X0 hx (v := (7 : Int32)) rfl (q := 264) rfl (hb hby at_262) ?_
                refine k_icmp_ne X0 hx (q1 := 289) (q := 267) (by decide) (by decide) rfl (hb hby at_264) (fun hc15 => ?_) (fun hc15 => ?_)
                · refine k_iconst X0 hx (v := (1 : Int32)) rfl (q := 290) rfl (hb hby at_289) ?_
                  refine k_istore X0 hx (L' := #[.val (.int x0), .val (.long x1), .second, .val (.long x2), .second, .val (.long x3), .second, .val (.long x4), .second, .val (.int x5), .val (.long (x1 + x3)), .second, .val (.long x2), .second, .val (.long x3), .second, .val (.long x1), .second, .val (.long (x2 + x3)), .second, .val (.long (x2 - x3)), .second, .val (.long (x1 ^^^ x2)), .second, .val (.int k), .val (.int x0), .val (.long (x1 + x3)), .second, .val (.long x2), .second, .val (.long x3), .second, .val (.long x1), .second, .val (.long (x2 + x3)), .second, .val (.long (x2 - x3)), .second, .val (.long (x1 ^^^ x2)), .second, .val (.int (1 : Int32)), .unset, .unset]) (q := 292) rfl (hb hby at_290) rfl ?_
                  exact J1 x0 (x1 + x3) x2 x3 x1 (x2 + x3) (x2 - x3) (x1 ^^^ x2) (1 : Int32) (own_eq_self _ _ _ _ _ _ _)
                · refine k_lload X0 hx (q := 269) rfl (hb hby at_267) rfl ?_
                  refine k_lstore X0 hx (L' := #[.val (.int x0), .val (.long x1), .second, .val (.long x2), .second, .val (.long x3), .second, .val (.long x4), .second, .val (.int x5), .val (.long (x1 + x3)), .second, .val (.long x2), .second, .val (.long x3), .second, .val (.long x1), .second, .val (.long (x2 + x3)), .second, .val (.long (x2 - x3)), .second, .val (.long (x1 ^^^ x2)), .second, .val (.int k), .val (.int x0), .val (.long (x1 + x3)), .second, .val (.long x2), .second, .val (.long x3), .second, .val (.long x1), .second, .val (.long (x2 + x3)), .second, .val (.long (x2 - x3)), .second, .val (.long x4), .second, .val (.int (1 : Int32)), .unset, .unset]) (q := 271) rfl (hb hby at_269) rfl ?_
                  refine k_lload X0 hx (q := 273) rfl (hb hby at_271) rfl ?_
                  refine k_lload X0 hx (q := 275) rfl (hb hby at_273) rfl ?_
                  refine k_lcmp_ne X0 hx (q1 := 283) (q := 279) (by decide) (by decide) rfl (hb hby at_275) (hb hby at_276) (fun hc16 => ?_) (fun hc16 => ?_)
                  · refine k_iconst X0 hx (v := (0 : Int32)) rfl (q := 284) rfl (hb hby at_283) ?_
                    refine k_istore X0 hx (L' := #[.val (.int x0), .val (.long x1), .second, .val (.long x2), .second, .val (.long x3), .second, .val (.long x4), .second, .val (.int x5), .val (.long (x1 + x3)), .second, .val (.long x2), .second, .val (.long x3), .second, .val (.long x1), .second, .val (.long (x2 + x3)), .second, .val (.long (x2 - x3)), .second, .val (.long (x1 ^^^ x2)), .second, .val (.int k), .val (.int x0), .val (.long (x1 + x3)), .second, .val (.long x2), .second, .val (.long x3), .second, .val (.long x1), .second, .val (.long (x2 + x3)), .second, .val (.long (x2 - x3)), .second, .val (.long x4), .second, .val (.int (0 : Int32)), .unset, .unset]) (q := 286) rfl (hb hby at_284) rfl ?_
                    refine k_goto X0 hx (q := 292) (by decide) (by decide) (hb hby at_286) ?_
                    exact J1 x0 (x1 + x3) x2 x3 x1 (x2 + x3) (x2 - x3) x4 (0 : Int32) (by simp only [own_eq, if_true]; rw [if_neg (fun q => hc16 q.symm)])
                  · refine k_iconst X0 hx (v := (1 : Int32)) rfl (q := 280) rfl (hb hby at_279) ?_
                    refine k_goto X0 hx (q := 284) (by decide) (by decide) (hb hby at_280) ?_
                    refine k_istore X0 hx (L' := #[.val (.int x0), .val (.long x1), .second, .val (.long x2), .second, .val (.long x3), .second, .val (.long x4), .second, .val (.int x5), .val (.long (x1 + x3)), .second, .val (.long x2), .second, .val (.long x3), .second, .val (.long x1), .second, .val (.long (x2 + x3)), .second, .val (.long (x2 - x3)), .second, .val (.long (x1 ^^^ x2)), .second, .val (.int k), .val (.int x0), .val (.long (x1 + x3)), .second, .val (.long x2), .second, .val (.long x3), .second, .val (.long x1), .second, .val (.long (x2 + x3)), .second, .val (.long (x2 - x3)), .second, .val (.long x4), .second, .val (.int (1 : Int32)), .unset, .unset]) (q := 286) rfl (hb hby at_284) rfl ?_
                    refine k_goto X0 hx (q := 292) (by decide) (by decide) (hb hby at_286) ?_
                    exact J1 x0 (x1 + x3) x2 x3 x1 (x2 + x3) (x2 - x3) x4 (1 : Int32) (by simp only [own_eq, if_true]; rw [if_pos hc16.symm])
              · refine k_lload X0 hx (q := 240) rfl (hb hby at_238) rfl ?_
                refine k_lstore X0 hx (L' := #[.val (.int x0), .val (.long x1), .second, .val (.long x2), .second, .val (.long x3), .second, .val (.long x4), .second, .val (.int x5), .val (.long (x1 + x3)), .second, .val (.long x2), .second, .val (.long x3), .second, .val (.long x1), .second, .val (.long (x2 + x3)), .second, .val (.long (x2 - x3)), .second, .val (.long (x1 ^^^ x2)), .second, .val (.int k), .val (.int x0), .val (.long (x1 + x3)), .second, .val (.long x2), .second, .val (.long x3), .second, .val (.long x1), .second, .val (.long (x2 + x3)), .second, .val (.long x4), .second, .val (.long (x1 ^^^ x2)), .second, .val (.int (1 : Int32)), .unset, .unset]) (q := 242) rfl (hb hby at_240) rfl ?_
                refine k_lload X0 hx (q := 244) rfl (hb hby at_242) rfl ?_
                refine k_lload X0 hx (q := 246) rfl (hb hby at_244) rfl ?_
                refine k_lcmp_ne X0 hx (q1 := 254) (q := 250) (by decide) (by decide) rfl (hb hby at_246) (hb hby at_247) (fun hc14 => ?_) (fun hc14 => ?_)
                · refine k_iconst X0 hx (v := (0 : Int32)) rfl (q := 255) rfl (hb hby at_254) ?_
                  refine k_istore X0 hx (L' := #[.val (.int x0), .val (.long x1), .second, .val (.long x2), .second, .val (.long x3), .second, .val (.long x4), .second, .val (.int x5), .val (.long (x1 + x3)), .second, .val (.long x2), .second, .val (.long x3), .second, .val (.long x1), .second, .val (.long (x2 + x3)), .second, .val (.long (x2 - x3)), .second, .val (.long (x1 ^^^ x2)), .second, .val (.int k), .val (.int x0), .val (.long (x1 + x3)), .second, .val (.long x2), .second, .val (.long x3), .second, .val (.long x1), .second, .val (.long (x2 + x3)), .second, .val (.long x4), .second, .val (.long (x1 ^^^ x2)), .second, .val (.int (0 : Int32)), .unset, .unset]) (q := 257) rfl (hb hby at_255) rfl ?_
                  refine k_goto X0 hx (q := 292) (by decide) (by decide) (hb hby at_257) ?_
                  exact J1 x0 (x1 + x3) x2 x3 x1 (x2 + x3) x4 (x1 ^^^ x2) (0 : Int32) (by simp only [own_eq, if_true]; rw [if_neg (fun q => hc14 q.symm)])
                · refine k_iconst X0 hx (v := (1 : Int32)) rfl (q := 251) rfl (hb hby at_250) ?_
                  refine k_goto X0 hx (q := 255) (by decide) (by decide) (hb hby at_251) ?_
                  refine k_istore X0 hx (L' := #[.val (.int x0), .val (.long x1), .second, .val (.long x2), .second, .val (.long x3), .second, .val (.long x4), .second, .val (.int x5), .val (.long (x1 + x3)), .second, .val (.long x2), .second, .val (.long x3), .second, .val (.long x1), .second, .val (.long (x2 + x3)), .second, .val (.long (x2 - x3)), .second, .val (.long (x1 ^^^ x2)), .second, .val (.int k), .val (.int x0), .val (.long (x1 + x3)), .second, .val (.long x2), .second, .val (.long x3), .second, .val (.long x1), .second, .val (.long (x2 + x3)), .second, .val (.long x4), .second, .val (.long (x1 ^^^ x2)), .second, .val (.int (1 : Int32)), .unset, .unset]) (q := 257) rfl (hb hby at_255) rfl ?_
                  refine k_goto X0 hx (q := 292) (by decide) (by decide) (hb hby at_257) ?_
                  exact J1 x0 (x1 + x3) x2 x3 x1 (x2 + x3) x4 (x1 ^^^ x2) (1 : Int32) (by simp only [own_eq, if_true]; rw [if_pos hc14.symm])
            · refine k_lload X0 hx (q := 211) rfl (hb hby at_209) rfl ?_
              refine k_lstore X0 hx (L' := #[.val (.int x0), .val (.long x1), .second, .val (.long x2), .second, .val (.long x3), .second, .val (.long x4), .second, .val (.int x5), .val (.long (x1 + x3)), .second, .val (.long x2), .second, .val (.long x3), .second, .val (.long x1), .second, .val (.long (x2 + x3)), .second, .val (.long (x2 - x3)), .second, .val (.long (x1 ^^^ x2)), .second, .val (.int k), .val (.int x0), .val (.long (x1 + x3)), .second, .val (.long x2), .second, .val (.long x3), .second, .val (.long x1), .second, .val (.long x4), .second, .val (.long (x2 - x3)), .second, .val (.long (x1 ^^^ x2)), .second, .val (.int (1 : Int32)), .unset, .unset]) (q := 213) rfl (hb hby at_211) rfl ?_
              refine k_lload X0 hx (q := 215) rfl (hb hby at_213) rfl ?_
              refine k_lload X0 hx (q := 217) rfl (hb hby at_215) rfl ?_
              refine k_lcmp_ne X0 hx (q1 := 225) (q := 221) (by decide) (by decide) rfl (hb hby at_217) (hb hby at_218) (fun hc12 => ?_) (fun hc12 => ?_)
              · refine k_iconst X0 hx (v := (0 : Int32)) rfl (q := 226) rfl (hb hby at_225) ?_
                refine k_istore X0 hx (L' := #[.val (.int x0), .val (.long x1), .second, .val (.long x2), .second, .val (.long x3), .second, .val (.long x4), .second, .val (.int x5), .val (.long (x1 + x3)), .second, .val (.long x2), .second, .val (.long x3), .second, .val (.long x1), .second, .val (.long (x2 + x3)), .second, .val (.long (x2 - x3)), .second, .val (.long (x1 ^^^ x2)), .second, .val (.int k), .val (.int x0), .val (.long (x1 + x3)), .second, .val (.long x2), .second, .val (.long x3), .second, .val (.long x1), .second, .val (.long x4), .second, .val (.long (x2 - x3)), .second, .val (.long (x1 ^^^ x2)), .second, .val (.int (0 : Int32)), .unset, .unset]) (q := 228) rfl (hb hby at_226) rfl ?_
                refine k_goto X0 hx (q := 292) (by decide) (by decide) (hb hby at_228) ?_
                exact J1 x0 (x1 + x3) x2 x3 x1 x4 (x2 - x3) (x1 ^^^ x2) (0 : Int32) (by simp only [own_eq, if_true]; rw [if_neg (fun q => hc12 q.symm)])
              · refine k_iconst X0 hx (v := (1 : Int32)) rfl (q := 222) rfl (hb hby at_221) ?_
                refine k_goto X0 hx (q := 226) (by decide) (by decide) (hb hby at_222) ?_
                refine k_istore X0 hx (L' := #[.val (.int x0), .val (.long x1), .second, .val (.long x2), .second, .val (.long x3), .second, .val (.long x4), .second, .val (.int x5), .val (.long (x1 + x3)), .second, .val (.long x2), .second, .val (.long x3), .second, .val (.long x1), .second, .val (.long (x2 + x3)), .second, .val (.long (x2 - x3)), .second, .val (.long (x1 ^^^ x2)), .second, .val (.int k), .val (.int x0), .val (.long (x1 + x3)), .second, .val (.long x2), .second, .val (.long x3), .second, .val (.long x1), .second, .val (.long x4), .second, .val (.long (x2 - x3)), .second, .val (.long (x1 ^^^ x2)), .second, .val (.int (1 : Int32)), .unset, .unset]) (q := 228) rfl (hb hby at_226) rfl ?_
                refine k_goto X0 hx (q := 292) (by decide) (by decide) (hb hby at_228) ?_
                exact J1 x0 (x1 + x3) x2 x3 x1 x4 (x2 - x3) (x1 ^^^ x2) (1 : Int32) (by simp only [own_eq, if_true]; rw [if_pos hc12.symm])
          · refine k_lload X0 hx (q := 183) rfl (hb hby at_181) rfl ?_
            refine k_lstore X0 hx (L' := #[.val (.int x0), .val (.long x1), .second, .val (.long x2), .second, .val (.long x3), .second, .val (.long x4), .second, .val (.int x5), .val (.long (x1 + x3)), .second, .val (.long x2), .second, .val (.long x3), .second, .val (.long x1), .second, .val (.long (x2 + x3)), .second, .val (.long (x2 - x3)), .second, .val (.long (x1 ^^^ x2)), .second, .val (.int k), .val (.int x0), .val (.long (x1 + x3)), .second, .val (.long x2), .second, .val (.long x3), .second, .val (.long x4), .second, .val (.long (x2 + x3)), .second, .val (.long (x2 - x3)), .second, .val (.long (x1 ^^^ x2)), .second, .val (.int (1 : Int32)), .unset, .unset]) (q := 185) rfl (hb hby at_183) rfl ?_
            refine k_lload X0 hx (q := 187) rfl (hb hby at_185) rfl ?_
            refine k_lload X0 hx (q := 189) rfl (hb hby at_187) rfl ?_
            refine k_lcmp_ne X0 hx (q1 := 197) (q := 193) (by decide) (by decide) rfl (hb hby at_189) (hb hby at_190) (fun hc10 => ?_) (fun hc10 => ?_)
            · refine k_iconst X0 hx (v := (0 : Int32)) rfl (q := 198) rfl (hb hby at_197) ?_
              refine k_istore X0 hx (L' := #[.val (.int x0), .val (.long x1), .second, .val (.long x2), .second, .val (.long x3), .second, .val (.long x4), .second, .val (.int x5), .val (.long (x1 + x3)), .second, .val (.long x2), .second, .val (.long x3), .second, .val (.long x1), .second, .val (.long (x2 + x3)), .second, .val (.long (x2 - x3)), .second, .val (.long (x1 ^^^ x2)), .second, .val (.int k), .val (.int x0), .val (.long (x1 + x3)), .second, .val (.long x2), .second, .val (.long x3), .second, .val (.long x4), .second, .val (.long (x2 + x3)), .second, .val (.long (x2 - x3)), .second, .val (.long (x1 ^^^ x2)), .second, .val (.int (0 : Int32)), .unset, .unset]) (q := 200) rfl (hb hby at_198) rfl ?_
              refine k_goto X0 hx (q := 292) (by decide) (by decide) (hb hby at_200) ?_
              exact J1 x0 (x1 + x3) x2 x3 x4 (x2 + x3) (x2 - x3) (x1 ^^^ x2) (0 : Int32) (by simp only [own_eq, if_true]; rw [if_neg (fun q => hc10 q.symm)])
            · refine k_iconst X0 hx (v := (1 : Int32)) rfl (q := 194) rfl (hb hby at_193) ?_
              refine k_goto X0 hx (q := 198) (by decide) (by decide) (hb hby at_194) ?_
              refine k_istore X0 hx (L' := #[.val (.int x0), .val (.long x1), .second, .val (.long x2), .second, .val (.long x3), .second, .val (.long x4), .second, .val (.int x5), .val (.long (x1 + x3)), .second, .val (.long x2), .second, .val (.long x3), .second, .val (.long x1), .second, .val (.long (x2 + x3)), .second, .val (.long (x2 - x3)), .second, .val (.long (x1 ^^^ x2)), .second, .val (.int k), .val (.int x0), .val (.long (x1 + x3)), .second, .val (.long x2), .second, .val (.long x3), .second, .val (.long x4), .second, .val (.long (x2 + x3)), .second, .val (.long (x2 - x3)), .second, .val (.long (x1 ^^^ x2)), .second, .val (.int (1 : Int32)), .unset, .unset]) (q := 200) rfl (hb hby at_198) rfl ?_
              refine k_goto X0 hx (q := 292) (by decide) (by decide) (hb hby at_200) ?_
              exact J1 x0 (x1 + x3) x2 x3 x4 (x2 + x3) (x2 - x3) (x1 ^^^ x2) (1 : Int32) (by simp only [own_eq, if_true]; rw [if_pos hc10.symm])
        · refine k_lload X0 hx (q := 155) rfl (hb hby at_153) rfl ?_
          refine k_lstore X0 hx (L' := #[.val (.int x0), .val (.long x1), .second, .val (.long x2), .second, .val (.long x3), .second, .val (.long x4), .second, .val (.int x5), .val (.long (x1 + x3)), .second, .val (.long x2), .second, .val (.long x3), .second, .val (.long x1), .second, .val (.long (x2 + x3)), .second, .val (.long (x2 - x3)), .second, .val (.long (x1 ^^^ x2)), .second, .val (.int k), .val (.int x0), .val (.long (x1 + x3)), .second, .val (.long x2), .second, .val (.long x4), .second, .val (.long x1), .second, .val (.long (x2 + x3)), .second, .val (.long (x2 - x3)), .second, .val (.long (x1 ^^^ x2)), .second, .val (.int (1 : Int32)), .unset, .unset]) (q := 157) rfl (hb hby at_155) rfl ?_
          refine k_lload X0 hx (q := 159) rfl (hb hby at_157) rfl ?_
          refine k_lload X0 hx (q := 161) rfl (hb hby at_159) rfl ?_
          refine k_lcmp_ne X0 hx (q1 := 169) (q := 165) (by decide) (by decide) rfl (hb hby at_161) (hb hby at_162) (fun hc8 => ?_) (fun hc8 => ?_)
          · refine k_iconst X0 hx (v := (0 : Int32)) rfl (q := 170) rfl (hb hby at_169) ?_
            refine k_istore X0 hx (L' := #[.val (.int x0), .val (.long x1), .second, .val (.long x2), .second, .val (.long x3), .second, .val (.long x4), .second, .val (.int x5), .val (.long (x1 + x3)), .second, .val (.long x2), .second, .val (.long x3), .second, .val (.long x1), .second, .val (.long (x2 + x3)), .second, .val (.long (x2 - x3)), .second, .val (.long (x1 ^^^ x2)), .second, .val (.int k), .val (.int x0), .val (.long (x1 + x3)), .second, .val (.long x2), .second, .val (.long x4), .second, .val (.long x1), .second, .val (.long (x2 + x3)), .second, .val (.long (x2 - x3)), .second, .val (.long (x1 ^^^ x2)), .second, .val (.int (0 : Int32)), .unset, .unset]) (q := 172) rfl (hb hby at_170) rfl ?_
            refine k_goto X0 hx (q := 292) (by decide) (by decide) (hb hby at_172) ?_
            exact J1 x0 (x1 + x3) x2 x4 x1 (x2 + x3) (x2 - x3) (x1 ^^^ x2) (0 : Int32) (by simp only [own_eq, if_true]; rw [if_neg (fun q => hc8 q.symm)])
          · refine k_iconst X0 hx (v := (1 : Int32)) rfl (q := 166) rfl (hb hby at_165) ?_
            refine k_goto X0 hx (q := 170) (by decide) (by decide) (hb hby at_166) ?_
            refine k_istore X0 hx (L' := #[.val (.int x0), .val (.long x1), .second, .val (.long x2), .second, .val (.long x3), .second, .val (.long x4), .second, .val (.int x5), .val (.long (x1 + x3)), .second, .val (.long x2), .second, .val (.long x3), .second, .val (.long x1), .second, .val (.long (x2 + x3)), .second, .val (.long (x2 - x3)), .second, .val (.long (x1 ^^^ x2)), .second, .val (.int k), .val (.int x0), .val (.long (x1 + x3)), .second, .val (.long x2), .second, .val (.long x4), .second, .val (.long x1), .second, .val (.long (x2 + x3)), .second, .val (.long (x2 - x3)), .second, .val (.long (x1 ^^^ x2)), .second, .val (.int (1 : Int32)), .unset, .unset]) (q := 172) rfl (hb hby at_170) rfl ?_
            refine k_goto X0 hx (q := 292) (by decide) (by decide) (hb hby at_172) ?_
            exact J1 x0 (x1 + x3) x2 x4 x1 (x2 + x3) (x2 - x3) (x1 ^^^ x2) (1 : Int32) (by simp only [own_eq, if_true]; rw [if_pos hc8.symm])
      · refine k_lload X0 hx (q := 127) rfl (hb hby at_125) rfl ?_
        refine k_lstore X0 hx (L' := #[.val (.int x0), .val (.long x1), .second, .val (.long x2), .second, .val (.long x3), .second, .val (.long x4), .second, .val (.int x5), .val (.long (x1 + x3)), .second, .val (.long x2), .second, .val (.long x3), .second, .val (.long x1), .second, .val (.long (x2 + x3)), .second, .val (.long (x2 - x3)), .second, .val (.long (x1 ^^^ x2)), .second, .val (.int k), .val (.int x0), .val (.long (x1 + x3)), .second, .val (.long x4), .second, .val (.long x3), .second, .val (.long x1), .second, .val (.long (x2 + x3)), .second, .val (.long (x2 - x3)), .second, .val (.long (x1 ^^^ x2)), .second, .val (.int (1 : Int32)), .unset, .unset]) (q := 129) rfl (hb hby at_127) rfl ?_
        refine k_lload X0 hx (q := 131) rfl (hb hby at_129) rfl ?_
        refine k_lload X0 hx (q := 133) rfl (hb hby at_131) rfl ?_
        refine k_lcmp_ne X0 hx (q1 := 141) (q := 137) (by decide) (by decide) rfl (hb hby at_133) (hb hby at_134) (fun hc6 => ?_) (fun hc6 => ?_)
        · refine k_iconst X0 hx (v := (0 : Int32)) rfl (q := 142) rfl (hb hby at_141) ?_
          refine k_istore X0 hx (L' := #[.val (.int x0), .val (.long x1), .second, .val (.long x2), .second, .val (.long x3), .second, .val (.long x4), .second, .val (.int x5), .val (.long (x1 + x3)), .second, .val (.long x2), .second, .val (.long x3), .second, .val (.long x1), .second, .val (.long (x2 + x3)), .second, .val (.long (x2 - x3)), .second, .val (.long (x1 ^^^ x2)), .second, .val (.int k), .val (.int x0), .val (.long (x1 + x3)), .second, .val (.long x4), .second, .val (.long x3), .second, .val (.long x1), .second, .val (.long (x2 + x3)), .second, .val (.long (x2 - x3)), .second, .val (.long (x1 ^^^ x2)), .second, .val (.int (0 : Int32)), .unset, .unset]) (q := 144) rfl (hb hby at_142) rfl ?_
          refine k_goto X0 hx (q := 292) (by decide) (by decide) (hb hby at_144) ?_
          exact J1 x0 (x1 + x3) x4 x3 x1 (x2 + x3) (x2 - x3) (x1 ^^^ x2) (0 : Int32) (by simp only [own_eq, if_true]; rw [if_neg (fun q => hc6 q.symm)])
        · refine k_iconst X0 hx (v := (1 : Int32)) rfl (q := 138) rfl (hb hby at_137) ?_
          refine k_goto X0 hx (q := 142) (by decide) (by decide) (hb hby at_138) ?_
          refine k_istore X0 hx (L' := #[.val (.int x0), .val (.long x1), .second, .val (.long x2), .second, .val (.long x3), .second, .val (.long x4), .second, .val (.int x5), .val (.long (x1 + x3)), .second, .val (.long x2), .second, .val (.long x3), .second, .val (.long x1), .second, .val (.long (x2 + x3)), .second, .val (.long (x2 - x3)), .second, .val (.long (x1 ^^^ x2)), .second, .val (.int k), .val (.int x0), .val (.long (x1 + x3)), .second, .val (.long x4), .second, .val (.long x3), .second, .val (.long x1), .second, .val (.long (x2 + x3)), .second, .val (.long (x2 - x3)), .second, .val (.long (x1 ^^^ x2)), .second, .val (.int (1 : Int32)), .unset, .unset]) (q := 144) rfl (hb hby at_142) rfl ?_
          refine k_goto X0 hx (q := 292) (by decide) (by decide) (hb hby at_144) ?_
          exact J1 x0 (x1 + x3) x4 x3 x1 (x2 + x3) (x2 - x3) (x1 ^^^ x2) (1 : Int32) (by simp only [own_eq, if_true]; rw [if_pos hc6.symm])
    · refine k_lload X0 hx (q := 111) rfl (hb hby at_109) rfl ?_
      refine k_lstore X0 hx (L' := #[.val (.int x0), .val (.long x1), .second, .val (.long x2), .second, .val (.long x3), .second, .val (.long x4), .second, .val (.int x5), .val (.long (x1 + x3)), .second, .val (.long x2), .second, .val (.long x3), .second, .val (.long x1), .second, .val (.long (x2 + x3)), .second, .val (.long (x2 - x3)), .second, .val (.long (x1 ^^^ x2)), .second, .val (.int k), .val (.int x0), .val (.long x4), .second, .val (.long x2), .second, .val (.long x3), .second, .val (.long x1), .second, .val (.long (x2 + x3)), .second, .val (.long (x2 - x3)), .second, .val (.long (x1 ^^^ x2)), .second, .val (.int (1 : Int32)), .unset, .unset]) (q := 113) rfl (hb hby at_111) rfl ?_
      refine k_iconst X0 hx (v := (1 : Int32)) rfl (q := 114) rfl (hb hby at_113) ?_
      refine k_istore X0 hx (L' := #[.val (.int x0), .val (.long x1), .second, .val (.long x2), .second, .val (.long x3), .second, .val (.long x4), .second, .val (.int x5), .val (.long (x1 + x3)), .second, .val (.long x2), .second, .val (.long x3), .second, .val (.long x1), .second, .val (.long (x2 + x3)), .second, .val (.long (x2 - x3)), .second, .val (.long (x1 ^^^ x2)), .second, .val (.int k), .val (.int x0), .val (.long x4), .second, .val (.long x2), .second, .val (.long x3), .second, .val (.long x1), .second, .val (.long (x2 + x3)), .second, .val (.long (x2 - x3)), .second, .val (.long (x1 ^^^ x2)), .second, .val (.int (1 : Int32)), .unset, .unset]) (q := 116) rfl (hb hby at_114) rfl ?_
      refine k_goto X0 hx (q := 292) (by decide) (by decide) (hb hby at_116) ?_
      exact J1 x0 x4 x2 x3 x1 (x2 + x3) (x2 - x3) (x1 ^^^ x2) (1 : Int32) (own_eq_self _ _ _ _ _ _ _)
  · refine k_lload X0 hx (q := 84) rfl (hb hby at_82) rfl ?_
    refine k_l2i X0 hx (q := 85) rfl (hb hby at_84) ?_
    refine k_istore X0 hx (L' := #[.val (.int x0), .val (.long x1), .second, .val (.long x2), .second, .val (.long x3), .second, .val (.long x4), .second, .val (.int x5), .val (.long (x1 + x3)), .second, .val (.long x2), .second, .val (.long x3), .second, .val (.long x1), .second, .val (.long (x2 + x3)), .second, .val (.long (x2 - x3)), .second, .val (.long (x1 ^^^ x2)), .second, .val (.int k), .val (.int x4.toInt32), .val (.long (x1 + x3)), .second, .val (.long x2), .second, .val (.long x3), .second, .val (.long x1), .second, .val (.long (x2 + x3)), .second, .val (.long (x2 - x3)), .second, .val (.long (x1 ^^^ x2)), .second, .val (.int (1 : Int32)), .unset, .unset]) (q := 87) rfl (hb hby at_85) rfl ?_
    refine k_iload X0 hx (q := 89) rfl (hb hby at_87) rfl ?_
    refine k_iloadN X0 hx (q := 90) rfl (hb hby at_89) rfl ?_
    refine k_icmp_ne X0 hx (q1 := 97) (q := 93) (by decide) (by decide) rfl (hb hby at_90) (fun hc3 => ?_) (fun hc3 => ?_)
    · refine k_iconst X0 hx (v := (0 : Int32)) rfl (q := 98) rfl (hb hby at_97) ?_
      refine k_istore X0 hx (L' := #[.val (.int x0), .val (.long x1), .second, .val (.long x2), .second, .val (.long x3), .second, .val (.long x4), .second, .val (.int x5), .val (.long (x1 + x3)), .second, .val (.long x2), .second, .val (.long x3), .second, .val (.long x1), .second, .val (.long (x2 + x3)), .second, .val (.long (x2 - x3)), .second, .val (.long (x1 ^^^ x2)), .second, .val (.int k), .val (.int x4.toInt32), .val (.long (x1 + x3)), .second, .val (.long x2), .second, .val (.long x3), .second, .val (.long x1), .second, .val (.long (x2 + x3)), .second, .val (.long (x2 - x3)), .second, .val (.long (x1 ^^^ x2)), .second, .val (.int (0 : Int32)), .unset, .unset]) (q := 100) rfl (hb hby at_98) rfl ?_
      refine k_goto X0 hx (q := 292) (by decide) (by decide) (hb hby at_100) ?_
      exact J1 x4.toInt32 (x1 + x3) x2 x3 x1 (x2 + x3) (x2 - x3) (x1 ^^^ x2) (0 : Int32) (by simp only [own_eq, if_true]; rw [if_neg (fun q => hc3 q.symm)])
    · refine k_iconst X0 hx (v := (1 : Int32)) rfl (q := 94) rfl (hb hby at_93) ?_
      refine k_goto X0 hx (q := 98) (by decide) (by decide) (hb hby at_94) ?_
      refine k_istore X0 hx (L' := #[.val (.int x0), .val (.long x1), .second, .val (.long x2), .second, .val (.long x3), .second, .val (.long x4), .second, .val (.int x5), .val (.long (x1 + x3)), .second, .val (.long x2), .second, .val (.long x3), .second, .val (.long x1), .second, .val (.long (x2 + x3)), .second, .val (.long (x2 - x3)), .second, .val (.long (x1 ^^^ x2)), .second, .val (.int k), .val (.int x4.toInt32), .val (.long (x1 + x3)), .second, .val (.long x2), .second, .val (.long x3), .second, .val (.long x1), .second, .val (.long (x2 + x3)), .second, .val (.long (x2 - x3)), .second, .val (.long (x1 ^^^ x2)), .second, .val (.int (1 : Int32)), .unset, .unset]) (q := 100) rfl (hb hby at_98) rfl ?_
      refine k_goto X0 hx (q := 292) (by decide) (by decide) (hb hby at_100) ?_
      exact J1 x4.toInt32 (x1 + x3) x2 x3 x1 (x2 + x3) (x2 - x3) (x1 ^^^ x2) (1 : Int32) (by simp only [own_eq, if_true]; rw [if_pos hc3.symm])
theorem own_cache {args : Array Value} {s : State} {t : Term} {ca : Addr} (hfit : Fit s) (v : ∀ idx, t.eval args s none idx s = some (.ref ca)) (c2 : (Cond.arrayOf t (.object "java/lang/Long")).value args s none s [] = some true) (c4 : (Cond.eq (.length t) (.int 256)).value args s none s [] = some true)
    (c5 : (Cond.all t (Cond.and (Cond.exactly (.elem t (.index 0)) "java/lang/Long") (Cond.eq (.field (.elem t (.index 0)) "java/lang/Long" "value" "J") (.op1 .i2l (.sub (.index 0) (.int 128)))))).value args s none s [] = some true) :
    ∃ cv : Nat → Addr, Ary s s.heap ca (.object "java/lang/Long") 256 (fun t => .ref (cv t)) ∧ ∀ i, i < 256 → Exa s s.heap (cv i) "java/lang/Long" := by
  obtain ⟨cl, A⟩ := Arr.start (v []) c2
  have hat : s.arrayAt? ca = some cl := Arr.fin (Vm.Alike.refl _) A
  have hlen : cl.slots.size = 256 := by
    obtain ⟨x, y, h1, h2, -, -⟩ := cmp_v (Or.inl c4)
    by_cases hl : cl.slots.size < 2 ^ 31
    · have e := len_f (v []) hat hl
      rw [Cond.eq_ints e (Term.int_eval 256)] at c4
      have q := of_decide_eq_true (Option.some.inj c4)
      have r := congrArg Int32.toInt q
      rw [len_toInt hl] at r
      have : (256 : Int32).toInt = 256 := by decide
      omega
    · simp [Term.eval, v [], hat, hl] at h1
  have each : ∀ i, i < 256 → ∃ b, cl.slots[i]? = some (.ref b) ∧ Exa s s.heap b "java/lang/Long" := by
    intro i hi
    have q := Cond.all_elim (v []) hat c5 i (by omega)
    obtain ⟨q1, -⟩ := and_e q
    obtain ⟨b, hb⟩ := exa_v q1
    have hb' : cl.slots[i]? = some (.ref b) := by
      have e : (Term.elem t (.index 0)).eval args s none [i] s = cl.slots[i]? := by
        have q0 := Ix.of (len_toInt (n := i) (by omega))
        simp [Term.eval, v [i], hat]
        rw [if_neg q0.1, q0.2]
      rw [← e]; exact hb
    obtain ⟨a', c', cell, k, e1, e2, e3, e4, e5, e6, e7⟩ := Cond.exactly_spec (beq_iff_eq.mpr q1 : (Cond.exactly (.elem t (.index 0)) "java/lang/Long").holds args s none s [i] = true)
    cases hb.symm.trans e1
    subst e6
    exact ⟨b, hb', cell, k, e3, e2, e4, e5, e7⟩
  refine ⟨fun i => if h : i < 256 then (each i h).choose else 0, ⟨cl, A, hlen, by decide, fun i hi => ?_⟩, fun i hi => ?_⟩
  · simp only [dif_pos hi]; exact (each i hi).choose_spec.1
  · simp only [dif_pos hi]; exact (each i hi).choose_spec.2
set_option maxRecDepth 65536 in
set_option maxHeartbeats 40000000 in
theorem comes_1 {Post : Tables → Env → Array Value → State → Outcome → State → Prop} (hpost : ∀ tb e args s v u, (limb_1_1.after args s (.returned v) u = true ∧ limb_1_2.after args s (.returned v) u = true ∧ True) → FrameEnd s (.returned v) u (Jvm.fieldLocs frame_1_writes args s ++ Jvm.arrayLocs frame_1_arrays args s ++ Jvm.staticLocs frame_1_statics s) 16 128 → Post tb e args s (.returned v) u) :
    ArmFor flags0 classFile x code maxLocals ret World_1 tables_1 room_1 Calls_1 rest_1 Pre_1 Post := by
  intro l hfl _ _ p e ha hc hk s m args below hf hA hF happ hP
  obtain ⟨hcalls, hrest, hpre⟩ := hP
  obtain ⟨-, -, -, hnamed, -, -, -, hat⟩ := (Spec.applies_iff hf).mp happ
  obtain ⟨hg, hn⟩ := and_e (Cond.before_iff.mp (show (Jvm.Cond.and given_1 narrow_1).before args s = true from hpre))
  obtain ⟨gc, g0⟩ := and_e hg
  obtain ⟨a0, g1⟩ := and_e g0
  obtain ⟨a1, g2⟩ := and_e g1
  obtain ⟨a2, g3⟩ := and_e g2
  obtain ⟨a3, g4⟩ := and_e g3
  obtain ⟨a4, g5⟩ := and_e g4
  obtain ⟨w0, w1, w2, w3, w4, w5, rfl⟩ : ∃ w0 w1 w2 w3 w4 w5 : Value, args = #[w0, w1, w2, w3, w4, w5] := by
    have hs : args.size = 6 := by simpa [Cond.value, given_1] using gc
    obtain ⟨L⟩ := args
    match L, hs with
    | [w0, w1, w2, w3, w4, w5], _ => exact ⟨w0, w1, w2, w3, w4, w5, rfl⟩
  have hw := fun d (hd : d ∈ tables_1) => atoms_spec (ws := Jvm.Cond.code x code maxLocals ret :: tables_1) hat d (List.mem_cons_of_mem _ hd)
  have hfit : Fit s := fun {y c} hc i hi => by
    obtain ⟨ha, rfl⟩ := Array.getElem?_eq_some_iff.mp hc
    have q := List.all_eq_true.mp ((Array.all_eq_true_iff_forall_mem.mp hF) _ (Array.getElem_mem ha)) i (List.mem_range.mpr hi)
    simpa [Array.getElem?_eq_getElem hi] using q
  obtain ⟨i0, ei0⟩ := is_v a0
  obtain rfl : w0 = (.int i0) := Option.some.inj ei0
  obtain ⟨i1, ei1⟩ := isL_v a1
  obtain rfl : w1 = (.long i1) := Option.some.inj ei1
  obtain ⟨i2, ei2⟩ := isL_v a2
  obtain rfl : w2 = (.long i2) := Option.some.inj ei2
  obtain ⟨i3, ei3⟩ := isL_v a3
  obtain rfl : w3 = (.long i3) := Option.some.inj ei3
  obtain ⟨i4, ei4⟩ := isL_v a4
  obtain rfl : w4 = (.long i4) := Option.some.inj ei4
  obtain ⟨i5, ei5⟩ := is_v g5
  obtain rfl : w5 = (.int i5) := Option.some.inj ei5
  obtain ⟨hsets, -⟩ := atoms_of _ (rest_1_c_eq ▸ (show rest_1_c.before _ s = true from hrest))
  have c2 := Cond.before_iff.mp (hsets _ (List.mem_of_getElem? (i := 2) rfl))
  have c4 := Cond.before_iff.mp (hsets _ (List.mem_of_getElem? (i := 4) rfl))
  have c5 := Cond.before_iff.mp (hsets _ (List.mem_of_getElem? (i := 5) rfl))
  obtain ⟨ca, vca⟩ := arr_v c2
  have hS := Sta.start vca (Or.inl (hsets _ (List.mem_of_getElem? (i := 1) rfl)))
  obtain ⟨cv, hC, hL⟩ := own_cache hfit (fun _ => vca) c2 c4 c5
  obtain ⟨n, o, h1, h2, h3, _, L, rfl, ⟨rfl, N⟩, hq⟩ := rmL l s _ hw i0 i1 i2 i3 i4 i5 s.heap s.heap.size (Nat.le_refl _) (Old.start s) ca cv hS hC hL p e ha hc hk s m _ below hf ((Spec.applies_iff_loose hf).mp happ).1 ⟨rfl, State.Warmed39.refl s, rfl⟩ trivial
  refine ⟨n, _, h1, h2, h3, hpost _ _ _ _ _ _ ⟨Cond.after_iff.mpr rfl, Cond.after_iff.mpr (eq_i res_at (Term.int_eval (1)) rfl), trivial⟩ ⟨hq.1, hq.2.1, (hq.2.2.sift fun y hy => Or.inr (N y hy)).mono (by decide) (by decide)⟩⟩
theorem main_1_1 : Claimed_1_1 := comes_1 fun _ _ _ _ _ _ h hF => ⟨h.1, hF⟩
theorem main_1_2 : Claimed_1_2 := comes_1 fun _ _ _ _ _ _ h hF => ⟨h.2.1, hF⟩
end Jvm.Pilot.@@N@@
namespace Jvm.Pilot.@@N@@
open Jvm Jvm.ClassFile Sem Op Lib Jvm.Free Jvm.Stand Jvm.Pilot.@@N@@.Jvm.D
/-! MADE BY PROGRAM (witnessworld.py) out of the Statement's table words and the real class files: 16 classes; the members and pool entries that the words name. The judged class is class 1, her method 1. -/
namespace start1
open Jvm.ClassFile
def u (s : String) : CpInfo := .utf8 (stringToUtf16 s)
/-- a pool by its gaps: so many unusable entries, then the entry; so many at the end -/
def gap : Nat → List CpInfo → List CpInfo
  | 0, r => r
  | n + 1, r => .unusable :: gap n r
def poolList (es : List (Nat × CpInfo)) (last : Nat) : List CpInfo := es.foldr (fun e r => gap e.1 (e.2 :: r)) (gap last [])
def pool (es : List (Nat × CpInfo)) (last : Nat) : Array CpInfo := ⟨poolList es last⟩
def fileOf (pool : Array CpInfo) (this : Nat) (attrs : Array Attribute := #[]) (ms : Array MethodInfo := #[]) (fl : Nat := 33) (sup : Nat := 0) (ifs : Array Nat := #[]) (fds : Array FieldInfo := #[]) : ClassFile where
  minorVersion := 0
  majorVersion := 65
  constantPool := pool
  accessFlags := fl
  thisClass := this
  superClass := sup
  interfaces := ifs
  fields := fds
  methods := ms
  attributes := attrs
def plain (name : String) (sup : Option ClassId) : Class where
  name := name
  kind := .ordinary
  loader := none
  accessFlags := 33
  super := sup
  interfaces := #[]
  cf := none
  fields := #[]
  methods := #[]
  instanceTypes := #[]
  staticTypes := #[]
  resolved := #[]
  callSites := []
  init := .initialized
  statics := none
  mirror := none

def pool0 : Array CpInfo := pool [(5, u "<init>"), (0, u "()V"), (1, .class_ 10), (1, u "java/lang/Object")] 113

def k0c0 : Code := { maxStack := 0, maxLocals := 1, code := object_method_1_code, exceptionTable := #[], attributes := #[] }
def k0m0 : Method := { name := "<init>", desc := "()V", sig := { parameters := [], returnType := none }, accessFlags := 1, code := some k0c0 }
/-- java/lang/Object -/
def k0 : Class := { plain "java/lang/Object" none with
  accessFlags := 33
  interfaces := #[]
  cf := some (fileOf pool0 8 #[] #[{ accessFlags := 1, nameIndex := 5, descriptorIndex := 6, attributes := #[] }] 33 0 #[] #[])
  fields := #[]
  methods := #[k0m0]
  instanceTypes := #[]
  staticTypes := #[]
  resolved := Array.replicate 124 none
  statics := none }

def pool1 : Array CpInfo := pool [(2, .class_ 4), (1, u "java/lang/Object"), (0, u "<init>"), (0, u "()V"), (0, .integer 65535), (0, .class_ 9), (0, u "com/example/slotwright/slotwright/Job"), (0, .methodref 8 11), (0, .nameAndType 5 12), (0, u "(IJJJJJJJ)V"), (0, .integer 65536), (0, .methodref 15 16), (0, .class_ 17), (0, .nameAndType 18 19), (0, u "java/lang/Long"), (0, u "valueOf"), (0, u "(J)Ljava/lang/Long;"), (0, .methodref 8 21), (0, .nameAndType 22 23), (0, u "equals"), (0, u "(Ljava/lang/Object;)Z"), (0, .class_ 25), (0, u "com/example/slotwright/slotwright/JobEqualsPinLaw"), (2, u "law"), (0, u "(IJJJJI)Z")] 3

def k1m0 : Method := { name := "<init>", desc := "()V", sig := { parameters := [], returnType := none }, accessFlags := 2, code := none }
def k1c1 : Code := { maxStack := 17, maxLocals := 43, code := code, exceptionTable := #[], attributes := #[] }
def k1m1 : Method := { name := "law", desc := "(IJJJJI)Z", sig := { parameters := [.int, .long, .long, .long, .long, .int], returnType := some .boolean }, accessFlags := 9, code := some k1c1 }
/-- com/example/slotwright/slotwright/JobEqualsPinLaw -/
def k1 : Class := { plain "com/example/slotwright/slotwright/JobEqualsPinLaw" (some 0) with
  accessFlags := 49
  interfaces := #[]
  cf := some (fileOf pool1 24 #[] #[{ accessFlags := 2, nameIndex := 5, descriptorIndex := 6, attributes := #[] }, { accessFlags := 9, nameIndex := 28, descriptorIndex := 29, attributes := #[] }] 49 2 #[] #[])
  fields := #[]
  methods := #[k1m0, k1m1]
  instanceTypes := #[]
  staticTypes := #[]
  resolved := Array.replicate 33 none
  statics := none }

def pool2 : Array CpInfo := pool [(1, .methodref 2 3), (0, .class_ 4), (0, .nameAndType 5 6), (0, u "java/lang/Object"), (0, u "<init>"), (0, u "()V"), (0, .fieldref 8 9), (0, .class_ 10), (0, .nameAndType 11 12), (0, u "com/example/slotwright/slotwright/Job"), (0, u "index"), (0, u "I"), (0, .fieldref 8 14), (0, .nameAndType 15 16), (0, u "line"), (0, u "J"), (0, .fieldref 8 18), (0, .nameAndType 19 16), (0, u "number"), (0, .fieldref 8 21), (0, .nameAndType 22 16), (0, u "submit"), (0, .fieldref 8 24), (0, .nameAndType 25 16), (0, u "runtime"), (0, .fieldref 8 27), (0, .nameAndType 28 16), (0, u "processors"), (0, .fieldref 8 30), (0, .nameAndType 31 16), (0, u "estimate"), (0, .fieldref 8 33), (0, .nameAndType 34 16), (0, u "partition"), (4, u "(IJJJJJJJ)V"), (78, .class_ 119), (0, u "com/example/slotwright/slotwright/Job$QueueOrder"), (3, u "QUEUE_ORDER"), (0, u "Ljava/util/Comparator;"), (11, u "equals"), (0, u "(Ljava/lang/Object;)Z")] 25

def k2c0 : Code := { maxStack := 3, maxLocals := 16, code := prog_69_method_1_code, exceptionTable := #[], attributes := #[] }
def k2m0 : Method := { name := "<init>", desc := "(IJJJJJJJ)V", sig := { parameters := [.int, .long, .long, .long, .long, .long, .long, .long], returnType := none }, accessFlags := 0, code := some k2c0 }
def k2c1 : Code := { maxStack := 4, maxLocals := 3, code := prog_69_method_18_code, exceptionTable := #[], attributes := #[] }
def k2m1 : Method := { name := "equals", desc := "(Ljava/lang/Object;)Z", sig := { parameters := [(.object "java/lang/Object")], returnType := some .boolean }, accessFlags := 1, code := some k2c1 }
/-- com/example/slotwright/slotwright/Job -/
def k2 : Class := { plain "com/example/slotwright/slotwright/Job" (some 0) with
  accessFlags := 49
  interfaces := #[]
  cf := some (fileOf pool2 8 #[.nestMembers #[118]] #[{ accessFlags := 0, nameIndex := 5, descriptorIndex := 39, attributes := #[] }, { accessFlags := 1, nameIndex := 136, descriptorIndex := 137, attributes := #[] }] 49 2 #[] #[{ accessFlags := 25, nameIndex := 123, descriptorIndex := 124, attributes := #[] }, { accessFlags := 18, nameIndex := 11, descriptorIndex := 12, attributes := #[] }, { accessFlags := 18, nameIndex := 15, descriptorIndex := 16, attributes := #[] }, { accessFlags := 18, nameIndex := 19, descriptorIndex := 16, attributes := #[] }, { accessFlags := 18, nameIndex := 22, descriptorIndex := 16, attributes := #[] }, { accessFlags := 18, nameIndex := 25, descriptorIndex := 16, attributes := #[] }, { accessFlags := 18, nameIndex := 28, descriptorIndex := 16, attributes := #[] }, { accessFlags := 18, nameIndex := 31, descriptorIndex := 16, attributes := #[] }, { accessFlags := 18, nameIndex := 34, descriptorIndex := 16, attributes := #[] }])
  fields := #[{ name := "QUEUE_ORDER", type := (.object "java/util/Comparator"), accessFlags := 25, slot := 0, constantValue := 0 }, { name := "index", type := .int, accessFlags := 18, slot := 0, constantValue := 0 }, { name := "line", type := .long, accessFlags := 18, slot := 1, constantValue := 0 }, { name := "number", type := .long, accessFlags := 18, slot := 2, constantValue := 0 }, { name := "submit", type := .long, accessFlags := 18, slot := 3, constantValue := 0 }, { name := "runtime", type := .long, accessFlags := 18, slot := 4, constantValue := 0 }, { name := "processors", type := .long, accessFlags := 18, slot := 5, constantValue := 0 }, { name := "estimate", type := .long, accessFlags := 18, slot := 6, constantValue := 0 }, { name := "partition", type := .long, accessFlags := 18, slot := 7, constantValue := 0 }]
  methods := #[k2m0, k2m1]
  instanceTypes := #[.int, .long, .long, .long, .long, .long, .long, .long]
  staticTypes := #[(.object "java/util/Comparator")]
  resolved := Array.replicate 163 none
  statics := none }

def pool3 : Array CpInfo := pool [(1, .class_ 2), (0, u "java/io/Serializable"), (0, .class_ 4), (0, u "java/lang/Object")] 2

/-- java/io/Serializable -/
def k3 : Class := { plain "java/io/Serializable" (some 0) with
  accessFlags := 1537
  interfaces := #[]
  cf := some (fileOf pool3 1 #[] #[] 1537 3 #[] #[])
  fields := #[]
  methods := #[]
  instanceTypes := #[]
  staticTypes := #[]
  resolved := Array.replicate 7 none
  statics := none }

def pool4 : Array CpInfo := pool [(1, .methodref 2 3), (0, .class_ 4), (0, .nameAndType 5 6), (0, u "java/lang/Object"), (0, u "<init>"), (0, u "()V"), (1, .class_ 10), (1, u "java/lang/Number"), (2, .class_ 14), (0, u "java/io/Serializable"), (0, u "serialVersionUID"), (0, u "J")] 20

def k4c0 : Code := { maxStack := 1, maxLocals := 1, code := jdk_18_method_1_code, exceptionTable := #[], attributes := #[] }
def k4m0 : Method := { name := "<init>", desc := "()V", sig := { parameters := [], returnType := none }, accessFlags := 1, code := some k4c0 }
/-- java/lang/Number -/
def k4 : Class := { plain "java/lang/Number" (some 0) with
  accessFlags := 1057
  interfaces := #[3]
  cf := some (fileOf pool4 8 #[] #[{ accessFlags := 1, nameIndex := 5, descriptorIndex := 6, attributes := #[] }] 1057 2 #[13] #[{ accessFlags := 26, nameIndex := 15, descriptorIndex := 16, attributes := #[] }])
  fields := #[{ name := "serialVersionUID", type := .long, accessFlags := 26, slot := 0, constantValue := 0 }]
  methods := #[k4m0]
  instanceTypes := #[]
  staticTypes := #[.long]
  resolved := Array.replicate 37 none
  statics := none }

def pool5 : Array CpInfo := pool [(1, .class_ 2), (0, u "java/lang/Comparable"), (0, .class_ 4), (0, u "java/lang/Object")] 7

/-- java/lang/Comparable -/
def k5 : Class := { plain "java/lang/Comparable" (some 0) with
  accessFlags := 1537
  interfaces := #[]
  cf := some (fileOf pool5 1 #[] #[] 1537 3 #[] #[])
  fields := #[]
  methods := #[]
  instanceTypes := #[]
  staticTypes := #[]
  resolved := Array.replicate 12 none
  statics := none }

def pool6 : Array CpInfo := pool [(1, .class_ 2), (0, u "java/lang/constant/Constable"), (0, .class_ 4), (0, u "java/lang/Object")] 6

/-- java/lang/constant/Constable -/
def k6 : Class := { plain "java/lang/constant/Constable" (some 0) with
  accessFlags := 1537
  interfaces := #[]
  cf := some (fileOf pool6 1 #[] #[] 1537 3 #[] #[])
  fields := #[]
  methods := #[]
  instanceTypes := #[]
  staticTypes := #[]
  resolved := Array.replicate 11 none
  statics := none }

def pool7 : Array CpInfo := pool [(1, .class_ 2), (0, u "java/lang/constant/ConstantDesc"), (0, .class_ 4), (0, u "java/lang/Object")] 32

/-- java/lang/constant/ConstantDesc -/
def k7 : Class := { plain "java/lang/constant/ConstantDesc" (some 0) with
  accessFlags := 1537
  interfaces := #[]
  cf := some (fileOf pool7 1 #[] #[] 1537 3 #[] #[])
  fields := #[]
  methods := #[]
  instanceTypes := #[]
  staticTypes := #[]
  resolved := Array.replicate 37 none
  statics := none }

def pool8 : Array CpInfo := pool [(1, .class_ 2), (0, u "java/lang/Long"), (55, .nameAndType 59 60), (0, u "<init>"), (0, u "()V"), (24, u "valueOf"), (143, u "(J)Ljava/lang/Long;"), (0, .long 18446744073709551488), (1, .long 127), (1, .fieldref 235 236), (0, .class_ 237), (0, .nameAndType 238 239), (0, u "java/lang/Long$LongCache"), (0, u "cache"), (0, u "[Ljava/lang/Long;"), (0, .methodref 1 241), (0, .nameAndType 59 242), (0, u "(J)V"), (27, .methodref 271 58), (0, .class_ 272), (0, u "java/lang/Number"), (0, .fieldref 1 274), (0, .nameAndType 275 276), (0, u "value"), (0, u "J"), (84, u "TYPE"), (0, u "Ljava/lang/Class;"), (0, .class_ 364), (0, u "java/lang/Comparable"), (0, .class_ 366), (0, u "java/lang/constant/Constable"), (0, .class_ 368), (0, u "java/lang/constant/ConstantDesc"), (0, u "MIN_VALUE"), (1, u "MAX_VALUE"), (4, u "SIZE"), (0, u "I"), (1, u "BYTES"), (1, u "serialVersionUID")] 142

def k8c0 : Code := { maxStack := 4, maxLocals := 3, code := jdk_35_method_24_code, exceptionTable := #[], attributes := #[] }
def k8m0 : Method := { name := "valueOf", desc := "(J)Ljava/lang/Long;", sig := { parameters := [.long], returnType := some (.object "java/lang/Long") }, accessFlags := 9, code := some k8c0 }
def k8c1 : Code := { maxStack := 3, maxLocals := 3, code := jdk_35_method_26_code, exceptionTable := #[], attributes := #[] }
def k8m1 : Method := { name := "<init>", desc := "(J)V", sig := { parameters := [.long], returnType := none }, accessFlags := 1, code := some k8c1 }
/-- java/lang/Long -/
def k8 : Class := { plain "java/lang/Long" (some 4) with
  accessFlags := 49
  interfaces := #[5, 6, 7]
  cf := some (fileOf pool8 1 #[.nestMembers #[235]] #[{ accessFlags := 9, nameIndex := 85, descriptorIndex := 229, attributes := #[] }, { accessFlags := 1, nameIndex := 59, descriptorIndex := 242, attributes := #[] }] 49 271 #[363, 365, 367] #[{ accessFlags := 25, nameIndex := 369, descriptorIndex := 276, attributes := #[] }, { accessFlags := 25, nameIndex := 371, descriptorIndex := 276, attributes := #[] }, { accessFlags := 25, nameIndex := 361, descriptorIndex := 362, attributes := #[] }, { accessFlags := 18, nameIndex := 275, descriptorIndex := 276, attributes := #[] }, { accessFlags := 25, nameIndex := 376, descriptorIndex := 377, attributes := #[] }, { accessFlags := 25, nameIndex := 379, descriptorIndex := 377, attributes := #[] }, { accessFlags := 26, nameIndex := 381, descriptorIndex := 276, attributes := #[] }])
  fields := #[{ name := "MIN_VALUE", type := .long, accessFlags := 25, slot := 0, constantValue := 0 }, { name := "MAX_VALUE", type := .long, accessFlags := 25, slot := 1, constantValue := 0 }, { name := "TYPE", type := (.object "java/lang/Class"), accessFlags := 25, slot := 2, constantValue := 0 }, { name := "value", type := .long, accessFlags := 18, slot := 0, constantValue := 0 }, { name := "SIZE", type := .int, accessFlags := 25, slot := 3, constantValue := 0 }, { name := "BYTES", type := .int, accessFlags := 25, slot := 4, constantValue := 0 }, { name := "serialVersionUID", type := .long, accessFlags := 26, slot := 5, constantValue := 0 }]
  methods := #[k8m0, k8m1]
  instanceTypes := #[.long]
  staticTypes := #[.long, .long, (.object "java/lang/Class"), .int, .int, .long]
  resolved := Array.replicate 524 none
  statics := none }

def pool9 : Array CpInfo := pool [(2, .class_ 4), (1, u "java/lang/Object"), (0, u "<init>"), (0, u "()V"), (0, .class_ 8), (0, u "java/lang/Long"), (7, .class_ 18), (1, u "java/lang/Long$LongCache"), (0, u "$assertionsDisabled"), (0, u "Z"), (8, u "archivedCache"), (0, u "[Ljava/lang/Long;"), (7, u "cache")] 24

def k9m0 : Method := { name := "<init>", desc := "()V", sig := { parameters := [], returnType := none }, accessFlags := 2, code := none }
/-- java/lang/Long$LongCache -/
def k9 : Class := { plain "java/lang/Long$LongCache" (some 0) with
  accessFlags := 48
  interfaces := #[]
  cf := some (fileOf pool9 16 #[.nestHost 7] #[{ accessFlags := 2, nameIndex := 5, descriptorIndex := 6, attributes := #[] }] 48 2 #[] #[{ accessFlags := 24, nameIndex := 38, descriptorIndex := 30, attributes := #[] }, { accessFlags := 8, nameIndex := 29, descriptorIndex := 30, attributes := #[] }, { accessFlags := 4120, nameIndex := 19, descriptorIndex := 20, attributes := #[] }])
  fields := #[{ name := "cache", type := (.array (.object "java/lang/Long")), accessFlags := 24, slot := 0, constantValue := 0 }, { name := "archivedCache", type := (.array (.object "java/lang/Long")), accessFlags := 8, slot := 1, constantValue := 0 }, { name := "$assertionsDisabled", type := .boolean, accessFlags := 4120, slot := 2, constantValue := 0 }]
  methods := #[k9m0]
  instanceTypes := #[]
  staticTypes := #[(.array (.object "java/lang/Long")), (.array (.object "java/lang/Long")), .boolean]
  resolved := Array.replicate 63 none
  statics := some 0 }

def pool10 : Array CpInfo := pool [(1, u "java/lang/Cloneable"), (0, .class_ 1), (0, u "java/lang/Object"), (0, .class_ 3)] 3

/-- java/lang/Cloneable -/
def k10 : Class := { plain "java/lang/Cloneable" (some 0) with
  accessFlags := 1537
  interfaces := #[]
  cf := some (fileOf pool10 2 #[] #[] 1537 4 #[] #[])
  fields := #[]
  methods := #[]
  instanceTypes := #[]
  staticTypes := #[]
  resolved := Array.replicate 8 none
  statics := none }

/-- the primitive byte -/
def k11 : Class := { plain "byte" none with kind := .primitive 'B', accessFlags := 0x411 }
/-- [B -/
def k12 : Class := { plain "[B" (some 0) with kind := .array 11 .byte, interfaces := #[10, 3], accessFlags := 1041 }

/-- the primitive int -/
def k13 : Class := { plain "int" none with kind := .primitive 'I', accessFlags := 0x411 }
/-- [I -/
def k14 : Class := { plain "[I" (some 0) with kind := .array 13 .int, interfaces := #[10, 3], accessFlags := 1041 }

/-- [Ljava/lang/Long; -/
def k15 : Class := { plain "[Ljava/lang/Long;" (some 0) with kind := .array 8 (.object "java/lang/Long"), interfaces := #[10, 3], accessFlags := 1041 }

def heap : Heap := #[{ cls := 9, slots := #[.ref 1, .null, .int 0], vm := .statics 9 },
  { cls := 15, slots := #[.ref 2, .ref 3, .ref 4, .ref 5, .ref 6, .ref 7, .ref 8, .ref 9, .ref 10, .ref 11, .ref 12, .ref 13, .ref 14, .ref 15, .ref 16, .ref 17, .ref 18, .ref 19, .ref 20, .ref 21, .ref 22, .ref 23, .ref 24, .ref 25, .ref 26, .ref 27, .ref 28, .ref 29, .ref 30, .ref 31, .ref 32, .ref 33, .ref 34, .ref 35, .ref 36, .ref 37, .ref 38, .ref 39, .ref 40, .ref 41, .ref 42, .ref 43, .ref 44, .ref 45, .ref 46, .ref 47, .ref 48, .ref 49, .ref 50, .ref 51, .ref 52, .ref 53, .ref 54, .ref 55, .ref 56, .ref 57, .ref 58, .ref 59, .ref 60, .ref 61, .ref 62, .ref 63, .ref 64, .ref 65, .ref 66, .ref 67, .ref 68, .ref 69, .ref 70, .ref 71, .ref 72, .ref 73, .ref 74, .ref 75, .ref 76, .ref 77, .ref 78, .ref 79, .ref 80, .ref 81, .ref 82, .ref 83, .ref 84, .ref 85, .ref 86, .ref 87, .ref 88, .ref 89, .ref 90, .ref 91, .ref 92, .ref 93, .ref 94, .ref 95, .ref 96, .ref 97, .ref 98, .ref 99, .ref 100, .ref 101, .ref 102, .ref 103, .ref 104, .ref 105, .ref 106, .ref 107, .ref 108, .ref 109, .ref 110, .ref 111, .ref 112, .ref 113, .ref 114, .ref 115, .ref 116, .ref 117, .ref 118, .ref 119, .ref 120, .ref 121, .ref 122, .ref 123, .ref 124, .ref 125, .ref 126, .ref 127, .ref 128, .ref 129, .ref 130, .ref 131, .ref 132, .ref 133, .ref 134, .ref 135, .ref 136, .ref 137, .ref 138, .ref 139, .ref 140, .ref 141, .ref 142, .ref 143, .ref 144, .ref 145, .ref 146, .ref 147, .ref 148, .ref 149, .ref 150, .ref 151, .ref 152, .ref 153, .ref 154, .ref 155, .ref 156, .ref 157, .ref 158, .ref 159, .ref 160, .ref 161, .ref 162, .ref 163, .ref 164, .ref 165, .ref 166, .ref 167, .ref 168, .ref 169, .ref 170, .ref 171, .ref 172, .ref 173, .ref 174, .ref 175, .ref 176, .ref 177, .ref 178, .ref 179, .ref 180, .ref 181, .ref 182, .ref 183, .ref 184, .ref 185, .ref 186, .ref 187, .ref 188, .ref 189, .ref 190, .ref 191, .ref 192, .ref 193, .ref 194, .ref 195, .ref 196, .ref 197, .ref 198, .ref 199, .ref 200, .ref 201, .ref 202, .ref 203, .ref 204, .ref 205, .ref 206, .ref 207, .ref 208, .ref 209, .ref 210, .ref 211, .ref 212, .ref 213, .ref 214, .ref 215, .ref 216, .ref 217, .ref 218, .ref 219, .ref 220, .ref 221, .ref 222, .ref 223, .ref 224, .ref 225, .ref 226, .ref 227, .ref 228, .ref 229, .ref 230, .ref 231, .ref 232, .ref 233, .ref 234, .ref 235, .ref 236, .ref 237, .ref 238, .ref 239, .ref 240, .ref 241, .ref 242, .ref 243, .ref 244, .ref 245, .ref 246, .ref 247, .ref 248, .ref 249, .ref 250, .ref 251, .ref 252, .ref 253, .ref 254, .ref 255, .ref 256, .ref 257], vm := .none },
  { cls := 8, slots := #[.long (-128)], vm := .none },
  { cls := 8, slots := #[.long (-127)], vm := .none },
  { cls := 8, slots := #[.long (-126)], vm := .none },
  { cls := 8, slots := #[.long (-125)], vm := .none },
  { cls := 8, slots := #[.long (-124)], vm := .none },
  { cls := 8, slots := #[.long (-123)], vm := .none },
  { cls := 8, slots := #[.long (-122)], vm := .none },
  { cls := 8, slots := #[.long (-121)], vm := .none },
  { cls := 8, slots := #[.long (-120)], vm := .none },
  { cls := 8, slots := #[.long (-119)], vm := .none },
  { cls := 8, slots := #[.long (-118)], vm := .none },
  { cls := 8, slots := #[.long (-117)], vm := .none },
  { cls := 8, slots := #[.long (-116)], vm := .none },
  { cls := 8, slots := #[.long (-115)], vm := .none },
  { cls := 8, slots := #[.long (-114)], vm := .none },
  { cls := 8, slots := #[.long (-113)], vm := .none },
  { cls := 8, slots := #[.long (-112)], vm := .none },
  { cls := 8, slots := #[.long (-111)], vm := .none },
  { cls := 8, slots := #[.long (-110)], vm := .none },
  { cls := 8, slots := #[.long (-109)], vm := .none },
  { cls := 8, slots := #[.long (-108)], vm := .none },
  { cls := 8, slots := #[.long (-107)], vm := .none },
  { cls := 8, slots := #[.long (-106)], vm := .none },
  { cls := 8, slots := #[.long (-105)], vm := .none },
  { cls := 8, slots := #[.long (-104)], vm := .none },
  { cls := 8, slots := #[.long (-103)], vm := .none },
  { cls := 8, slots := #[.long (-102)], vm := .none },
  { cls := 8, slots := #[.long (-101)], vm := .none },
  { cls := 8, slots := #[.long (-100)], vm := .none },
  { cls := 8, slots := #[.long (-99)], vm := .none },
  { cls := 8, slots := #[.long (-98)], vm := .none },
  { cls := 8, slots := #[.long (-97)], vm := .none },
  { cls := 8, slots := #[.long (-96)], vm := .none },
  { cls := 8, slots := #[.long (-95)], vm := .none },
  { cls := 8, slots := #[.long (-94)], vm := .none },
  { cls := 8, slots := #[.long (-93)], vm := .none },
  { cls := 8, slots := #[.long (-92)], vm := .none },
  { cls := 8, slots := #[.long (-91)], vm := .none },
  { cls := 8, slots := #[.long (-90)], vm := .none },
  { cls := 8, slots := #[.long (-89)], vm := .none },
  { cls := 8, slots := #[.long (-88)], vm := .none },
  { cls := 8, slots := #[.long (-87)], vm := .none },
  { cls := 8, slots := #[.long (-86)], vm := .none },
  { cls := 8, slots := #[.long (-85)], vm := .none },
  { cls := 8, slots := #[.long (-84)], vm := .none },
  { cls := 8, slots := #[.long (-83)], vm := .none },
  { cls := 8, slots := #[.long (-82)], vm := .none },
  { cls := 8, slots := #[.long (-81)], vm := .none },
  { cls := 8, slots := #[.long (-80)], vm := .none },
  { cls := 8, slots := #[.long (-79)], vm := .none },
  { cls := 8, slots := #[.long (-78)], vm := .none },
  { cls := 8, slots := #[.long (-77)], vm := .none },
  { cls := 8, slots := #[.long (-76)], vm := .none },
  { cls := 8, slots := #[.long (-75)], vm := .none },
  { cls := 8, slots := #[.long (-74)], vm := .none },
  { cls := 8, slots := #[.long (-73)], vm := .none },
  { cls := 8, slots := #[.long (-72)], vm := .none },
  { cls := 8, slots := #[.long (-71)], vm := .none },
  { cls := 8, slots := #[.long (-70)], vm := .none },
  { cls := 8, slots := #[.long (-69)], vm := .none },
  { cls := 8, slots := #[.long (-68)], vm := .none },
  { cls := 8, slots := #[.long (-67)], vm := .none },
  { cls := 8, slots := #[.long (-66)], vm := .none },
  { cls := 8, slots := #[.long (-65)], vm := .none },
  { cls := 8, slots := #[.long (-64)], vm := .none },
  { cls := 8, slots := #[.long (-63)], vm := .none },
  { cls := 8, slots := #[.long (-62)], vm := .none },
  { cls := 8, slots := #[.long (-61)], vm := .none },
  { cls := 8, slots := #[.long (-60)], vm := .none },
  { cls := 8, slots := #[.long (-59)], vm := .none },
  { cls := 8, slots := #[.long (-58)], vm := .none },
  { cls := 8, slots := #[.long (-57)], vm := .none },
  { cls := 8, slots := #[.long (-56)], vm := .none },
  { cls := 8, slots := #[.long (-55)], vm := .none },
  { cls := 8, slots := #[.long (-54)], vm := .none },
  { cls := 8, slots := #[.long (-53)], vm := .none },
  { cls := 8, slots := #[.long (-52)], vm := .none },
  { cls := 8, slots := #[.long (-51)], vm := .none },
  { cls := 8, slots := #[.long (-50)], vm := .none },
  { cls := 8, slots := #[.long (-49)], vm := .none },
  { cls := 8, slots := #[.long (-48)], vm := .none },
  { cls := 8, slots := #[.long (-47)], vm := .none },
  { cls := 8, slots := #[.long (-46)], vm := .none },
  { cls := 8, slots := #[.long (-45)], vm := .none },
  { cls := 8, slots := #[.long (-44)], vm := .none },
  { cls := 8, slots := #[.long (-43)], vm := .none },
  { cls := 8, slots := #[.long (-42)], vm := .none },
  { cls := 8, slots := #[.long (-41)], vm := .none },
  { cls := 8, slots := #[.long (-40)], vm := .none },
  { cls := 8, slots := #[.long (-39)], vm := .none },
  { cls := 8, slots := #[.long (-38)], vm := .none },
  { cls := 8, slots := #[.long (-37)], vm := .none },
  { cls := 8, slots := #[.long (-36)], vm := .none },
  { cls := 8, slots := #[.long (-35)], vm := .none },
  { cls := 8, slots := #[.long (-34)], vm := .none },
  { cls := 8, slots := #[.long (-33)], vm := .none },
  { cls := 8, slots := #[.long (-32)], vm := .none },
  { cls := 8, slots := #[.long (-31)], vm := .none },
  { cls := 8, slots := #[.long (-30)], vm := .none },
  { cls := 8, slots := #[.long (-29)], vm := .none },
  { cls := 8, slots := #[.long (-28)], vm := .none },
  { cls := 8, slots := #[.long (-27)], vm := .none },
  { cls := 8, slots := #[.long (-26)], vm := .none },
  { cls := 8, slots := #[.long (-25)], vm := .none },
  { cls := 8, slots := #[.long (-24)], vm := .none },
  { cls := 8, slots := #[.long (-23)], vm := .none },
  { cls := 8, slots := #[.long (-22)], vm := .none },
  { cls := 8, slots := #[.long (-21)], vm := .none },
  { cls := 8, slots := #[.long (-20)], vm := .none },
  { cls := 8, slots := #[.long (-19)], vm := .none },
  { cls := 8, slots := #[.long (-18)], vm := .none },
  { cls := 8, slots := #[.long (-17)], vm := .none },
  { cls := 8, slots := #[.long (-16)], vm := .none },
  { cls := 8, slots := #[.long (-15)], vm := .none },
  { cls := 8, slots := #[.long (-14)], vm := .none },
  { cls := 8, slots := #[.long (-13)], vm := .none },
  { cls := 8, slots := #[.long (-12)], vm := .none },
  { cls := 8, slots := #[.long (-11)], vm := .none },
  { cls := 8, slots := #[.long (-10)], vm := .none },
  { cls := 8, slots := #[.long (-9)], vm := .none },
  { cls := 8, slots := #[.long (-8)], vm := .none },
  { cls := 8, slots := #[.long (-7)], vm := .none },
  { cls := 8, slots := #[.long (-6)], vm := .none },
  { cls := 8, slots := #[.long (-5)], vm := .none },
  { cls := 8, slots := #[.long (-4)], vm := .none },
  { cls := 8, slots := #[.long (-3)], vm := .none },
  { cls := 8, slots := #[.long (-2)], vm := .none },
  { cls := 8, slots := #[.long (-1)], vm := .none },
  { cls := 8, slots := #[.long 0], vm := .none },
  { cls := 8, slots := #[.long 1], vm := .none },
  { cls := 8, slots := #[.long 2], vm := .none },
  { cls := 8, slots := #[.long 3], vm := .none },
  { cls := 8, slots := #[.long 4], vm := .none },
  { cls := 8, slots := #[.long 5], vm := .none },
  { cls := 8, slots := #[.long 6], vm := .none },
  { cls := 8, slots := #[.long 7], vm := .none },
  { cls := 8, slots := #[.long 8], vm := .none },
  { cls := 8, slots := #[.long 9], vm := .none },
  { cls := 8, slots := #[.long 10], vm := .none },
  { cls := 8, slots := #[.long 11], vm := .none },
  { cls := 8, slots := #[.long 12], vm := .none },
  { cls := 8, slots := #[.long 13], vm := .none },
  { cls := 8, slots := #[.long 14], vm := .none },
  { cls := 8, slots := #[.long 15], vm := .none },
  { cls := 8, slots := #[.long 16], vm := .none },
  { cls := 8, slots := #[.long 17], vm := .none },
  { cls := 8, slots := #[.long 18], vm := .none },
  { cls := 8, slots := #[.long 19], vm := .none },
  { cls := 8, slots := #[.long 20], vm := .none },
  { cls := 8, slots := #[.long 21], vm := .none },
  { cls := 8, slots := #[.long 22], vm := .none },
  { cls := 8, slots := #[.long 23], vm := .none },
  { cls := 8, slots := #[.long 24], vm := .none },
  { cls := 8, slots := #[.long 25], vm := .none },
  { cls := 8, slots := #[.long 26], vm := .none },
  { cls := 8, slots := #[.long 27], vm := .none },
  { cls := 8, slots := #[.long 28], vm := .none },
  { cls := 8, slots := #[.long 29], vm := .none },
  { cls := 8, slots := #[.long 30], vm := .none },
  { cls := 8, slots := #[.long 31], vm := .none },
  { cls := 8, slots := #[.long 32], vm := .none },
  { cls := 8, slots := #[.long 33], vm := .none },
  { cls := 8, slots := #[.long 34], vm := .none },
  { cls := 8, slots := #[.long 35], vm := .none },
  { cls := 8, slots := #[.long 36], vm := .none },
  { cls := 8, slots := #[.long 37], vm := .none },
  { cls := 8, slots := #[.long 38], vm := .none },
  { cls := 8, slots := #[.long 39], vm := .none },
  { cls := 8, slots := #[.long 40], vm := .none },
  { cls := 8, slots := #[.long 41], vm := .none },
  { cls := 8, slots := #[.long 42], vm := .none },
  { cls := 8, slots := #[.long 43], vm := .none },
  { cls := 8, slots := #[.long 44], vm := .none },
  { cls := 8, slots := #[.long 45], vm := .none },
  { cls := 8, slots := #[.long 46], vm := .none },
  { cls := 8, slots := #[.long 47], vm := .none },
  { cls := 8, slots := #[.long 48], vm := .none },
  { cls := 8, slots := #[.long 49], vm := .none },
  { cls := 8, slots := #[.long 50], vm := .none },
  { cls := 8, slots := #[.long 51], vm := .none },
  { cls := 8, slots := #[.long 52], vm := .none },
  { cls := 8, slots := #[.long 53], vm := .none },
  { cls := 8, slots := #[.long 54], vm := .none },
  { cls := 8, slots := #[.long 55], vm := .none },
  { cls := 8, slots := #[.long 56], vm := .none },
  { cls := 8, slots := #[.long 57], vm := .none },
  { cls := 8, slots := #[.long 58], vm := .none },
  { cls := 8, slots := #[.long 59], vm := .none },
  { cls := 8, slots := #[.long 60], vm := .none },
  { cls := 8, slots := #[.long 61], vm := .none },
  { cls := 8, slots := #[.long 62], vm := .none },
  { cls := 8, slots := #[.long 63], vm := .none },
  { cls := 8, slots := #[.long 64], vm := .none },
  { cls := 8, slots := #[.long 65], vm := .none },
  { cls := 8, slots := #[.long 66], vm := .none },
  { cls := 8, slots := #[.long 67], vm := .none },
  { cls := 8, slots := #[.long 68], vm := .none },
  { cls := 8, slots := #[.long 69], vm := .none },
  { cls := 8, slots := #[.long 70], vm := .none },
  { cls := 8, slots := #[.long 71], vm := .none },
  { cls := 8, slots := #[.long 72], vm := .none },
  { cls := 8, slots := #[.long 73], vm := .none },
  { cls := 8, slots := #[.long 74], vm := .none },
  { cls := 8, slots := #[.long 75], vm := .none },
  { cls := 8, slots := #[.long 76], vm := .none },
  { cls := 8, slots := #[.long 77], vm := .none },
  { cls := 8, slots := #[.long 78], vm := .none },
  { cls := 8, slots := #[.long 79], vm := .none },
  { cls := 8, slots := #[.long 80], vm := .none },
  { cls := 8, slots := #[.long 81], vm := .none },
  { cls := 8, slots := #[.long 82], vm := .none },
  { cls := 8, slots := #[.long 83], vm := .none },
  { cls := 8, slots := #[.long 84], vm := .none },
  { cls := 8, slots := #[.long 85], vm := .none },
  { cls := 8, slots := #[.long 86], vm := .none },
  { cls := 8, slots := #[.long 87], vm := .none },
  { cls := 8, slots := #[.long 88], vm := .none },
  { cls := 8, slots := #[.long 89], vm := .none },
  { cls := 8, slots := #[.long 90], vm := .none },
  { cls := 8, slots := #[.long 91], vm := .none },
  { cls := 8, slots := #[.long 92], vm := .none },
  { cls := 8, slots := #[.long 93], vm := .none },
  { cls := 8, slots := #[.long 94], vm := .none },
  { cls := 8, slots := #[.long 95], vm := .none },
  { cls := 8, slots := #[.long 96], vm := .none },
  { cls := 8, slots := #[.long 97], vm := .none },
  { cls := 8, slots := #[.long 98], vm := .none },
  { cls := 8, slots := #[.long 99], vm := .none },
  { cls := 8, slots := #[.long 100], vm := .none },
  { cls := 8, slots := #[.long 101], vm := .none },
  { cls := 8, slots := #[.long 102], vm := .none },
  { cls := 8, slots := #[.long 103], vm := .none },
  { cls := 8, slots := #[.long 104], vm := .none },
  { cls := 8, slots := #[.long 105], vm := .none },
  { cls := 8, slots := #[.long 106], vm := .none },
  { cls := 8, slots := #[.long 107], vm := .none },
  { cls := 8, slots := #[.long 108], vm := .none },
  { cls := 8, slots := #[.long 109], vm := .none },
  { cls := 8, slots := #[.long 110], vm := .none },
  { cls := 8, slots := #[.long 111], vm := .none },
  { cls := 8, slots := #[.long 112], vm := .none },
  { cls := 8, slots := #[.long 113], vm := .none },
  { cls := 8, slots := #[.long 114], vm := .none },
  { cls := 8, slots := #[.long 115], vm := .none },
  { cls := 8, slots := #[.long 116], vm := .none },
  { cls := 8, slots := #[.long 117], vm := .none },
  { cls := 8, slots := #[.long 118], vm := .none },
  { cls := 8, slots := #[.long 119], vm := .none },
  { cls := 8, slots := #[.long 120], vm := .none },
  { cls := 8, slots := #[.long 121], vm := .none },
  { cls := 8, slots := #[.long 122], vm := .none },
  { cls := 8, slots := #[.long 123], vm := .none },
  { cls := 8, slots := #[.long 124], vm := .none },
  { cls := 8, slots := #[.long 125], vm := .none },
  { cls := 8, slots := #[.long 126], vm := .none },
  { cls := 8, slots := #[.long 127], vm := .none }]
def classes : Array Class := #[k0, k1, k2, k3, k4, k5, k6, k7, k8, k9, k10, k11, k12, k13, k14, k15]
def interned : List (Array UInt16 × Addr) := []
def slotsUsed : Nat := 515
def theMethod : MethodId := ⟨1, 1⟩
def args0 : Array Value := #[.int 3, .long 5, .long 6, .long 7, .long 8, .int 2]
def aboutOver (below : List Frame) : State where
  vm := { classes := classes, interned := interned.toArray }
  heap := heap
  slotsUsed := slotsUsed
  threads := #[{ frames := .invoking theMethod args0 :: below }]
def below0 : List Frame := [.native { method := ⟨0, 0⟩, args := #[] }]
def about1 : State := aboutOver below0
def p0 : Program := .bare "" "" ""
def e0 : Env := launch0.env 0 0 0
theorem w_frames : about1.frames = Frame.invoking theMethod args0 :: below0 := rfl
set_option maxRecDepth 65536 in
theorem w_args : argsFit about1.vm theMethod args0 = true := by decide +kernel
set_option maxRecDepth 65536 in
theorem w_heap : heapFits about1 = true := by decide +kernel
set_option maxRecDepth 65536 in
theorem w_runnable : about1.curStatus? = some .runnable := by decide +kernel
set_option maxRecDepth 65536 in
theorem w_alone : about1.alone = true := by decide +kernel
set_option maxRecDepth 65536 in
theorem w_named : about1.methodNamed? x = some theMethod := by decide +kernel
set_option maxRecDepth 65536 in
theorem w_hears : about1.hears theMethod below0 = true := by decide +kernel
set_option maxRecDepth 65536 in
theorem w_ripe : about1.ripe theMethod args0 below0 = true := by decide +kernel
theorem w_running : about1.status = .running := rfl
set_option maxRecDepth 65536 in
theorem w_room : about1.hasRoom e0.platform room_1 = true :=
  launch0.hasRoom_least _ room_1 (by decide +kernel) (by decide +kernel) (by decide +kernel) (by decide +kernel) (by decide +kernel) (by decide +kernel)
theorem allAtoms_all (ts : List Jvm.Cond) (a : Array Jvm.Value) (st : Jvm.State) : (allAtoms ts).before a st = ts.all (fun c => c.before a st) := by
  induction ts with
  | nil => rfl
  | cons c t ih =>
    show (Jvm.Cond.and c (allAtoms t)).before a st = _
    rw [Jvm.Cond.before_and, ih, List.all_cons]
def words1 : List Jvm.Cond := Jvm.Cond.code x code maxLocals ret :: tables_1
/-- a 'code' word, met by the world's own term for the bytes: nothing is compared byte by byte -/
theorem code_word {y : MethodName} {bytes : ByteArray} {mx : Nat} {rt : Option FieldType} {a : Array Value} {s : State} {m : MethodId} {meth : Method} {c : Code} (h1 : s.methodNamed? y = some m) (h2 : s.vm.method? m = some meth) (h3 : meth.code = some c) (h4 : c.code = bytes)
    (h5 : (c.maxLocals == mx && c.exceptionTable.isEmpty && decide (c.maxStack ≤ mostOperands) && decide (meth.sig.returnType = rt) && !meth.locks && decide (parseMethodDescriptor y.desc = some meth.sig)) = true) : (Jvm.Cond.code y bytes mx rt).before a s = true := by
  simp only [Bool.and_eq_true, beq_iff_eq, Bool.not_eq_true', decide_eq_true_eq] at h5
  obtain ⟨⟨⟨⟨⟨g1, g2⟩, g3⟩, g4⟩, g5⟩, g6⟩ := h5
  simp [Cond.before, Cond.holds, Cond.value, h1, h2, h3, h4, g1, g2, g3, g4, g5, g6]
def isCode : Jvm.Cond → Bool
  | .code _ _ _ _ => true
  | _ => false
theorem all_split {L : List Jvm.Cond} {P : Jvm.Cond → Bool} (h1 : L.all (fun c => isCode c || P c) = true) (h2 : ∀ c ∈ L.filter isCode, P c = true) : L.all P = true := by
  refine List.all_eq_true.mpr fun c hc => ?_
  have h := List.all_eq_true.mp h1 c hc
  rcases Bool.eq_false_or_eq_true (isCode c) with hi | hi
  · exact h2 c (List.mem_filter.mpr ⟨hc, hi⟩)
  · simpa [hi] using h
set_option maxRecDepth 65536 in
theorem w_c0 : (Jvm.Cond.code x code maxLocals ret).before args0 about1 = true := code_word (m := ⟨1, 1⟩) (meth := k1m1) (c := k1c1) (by decide +kernel) rfl rfl rfl (by decide +kernel)
set_option maxRecDepth 65536 in
theorem w_c1 : (Jvm.Cond.code ({ cls := "com/example/slotwright/slotwright/Job", name := "<init>", desc := "(IJJJJJJJ)V" } : Jvm.MethodName) prog_69_method_1_code (16 : Nat) (Option.none : Option Jvm.ClassFile.FieldType)).before args0 about1 = true := code_word (m := ⟨2, 0⟩) (meth := k2m0) (c := k2c0) (by decide +kernel) rfl rfl rfl (by decide +kernel)
set_option maxRecDepth 65536 in
theorem w_c2 : (Jvm.Cond.code ({ cls := "java/lang/Object", name := "<init>", desc := "()V" } : Jvm.MethodName) object_method_1_code (1 : Nat) (Option.none : Option Jvm.ClassFile.FieldType)).before args0 about1 = true := code_word (m := ⟨0, 0⟩) (meth := k0m0) (c := k0c0) (by decide +kernel) rfl rfl rfl (by decide +kernel)
set_option maxRecDepth 65536 in
theorem w_c3 : (Jvm.Cond.code ({ cls := "com/example/slotwright/slotwright/Job", name := "equals", desc := "(Ljava/lang/Object;)Z" } : Jvm.MethodName) prog_69_method_18_code (3 : Nat) (Option.some Jvm.ClassFile.FieldType.boolean)).before args0 about1 = true := code_word (m := ⟨2, 1⟩) (meth := k2m1) (c := k2c1) (by decide +kernel) rfl rfl rfl (by decide +kernel)
set_option maxRecDepth 65536 in
theorem w_c4 : (Jvm.Cond.code ({ cls := "java/lang/Long", name := "valueOf", desc := "(J)Ljava/lang/Long;" } : Jvm.MethodName) jdk_35_method_24_code (3 : Nat) (Option.some (Jvm.ClassFile.FieldType.object "java/lang/Long"))).before args0 about1 = true := code_word (m := ⟨8, 0⟩) (meth := k8m0) (c := k8c0) (by decide +kernel) rfl rfl rfl (by decide +kernel)
set_option maxRecDepth 65536 in
theorem w_c5 : (Jvm.Cond.code ({ cls := "java/lang/Long", name := "<init>", desc := "(J)V" } : Jvm.MethodName) jdk_35_method_26_code (3 : Nat) (Option.none : Option Jvm.ClassFile.FieldType)).before args0 about1 = true := code_word (m := ⟨8, 1⟩) (meth := k8m1) (c := k8c1) (by decide +kernel) rfl rfl rfl (by decide +kernel)
set_option maxRecDepth 65536 in
theorem w_c6 : (Jvm.Cond.code ({ cls := "java/lang/Number", name := "<init>", desc := "()V" } : Jvm.MethodName) jdk_18_method_1_code (1 : Nat) (Option.none : Option Jvm.ClassFile.FieldType)).before args0 about1 = true := code_word (m := ⟨4, 0⟩) (meth := k4m0) (c := k4c0) (by decide +kernel) rfl rfl rfl (by decide +kernel)
def codes1 : List Jvm.Cond := [Jvm.Cond.code x code maxLocals ret, Jvm.Cond.code ({ cls := "com/example/slotwright/slotwright/Job", name := "<init>", desc := "(IJJJJJJJ)V" } : Jvm.MethodName) prog_69_method_1_code (16 : Nat) (Option.none : Option Jvm.ClassFile.FieldType), Jvm.Cond.code ({ cls := "java/lang/Object", name := "<init>", desc := "()V" } : Jvm.MethodName) object_method_1_code (1 : Nat) (Option.none : Option Jvm.ClassFile.FieldType), Jvm.Cond.code ({ cls := "com/example/slotwright/slotwright/Job", name := "equals", desc := "(Ljava/lang/Object;)Z" } : Jvm.MethodName) prog_69_method_18_code (3 : Nat) (Option.some Jvm.ClassFile.FieldType.boolean), Jvm.Cond.code ({ cls := "java/lang/Long", name := "valueOf", desc := "(J)Ljava/lang/Long;" } : Jvm.MethodName) jdk_35_method_24_code (3 : Nat) (Option.some (Jvm.ClassFile.FieldType.object "java/lang/Long")), Jvm.Cond.code ({ cls := "java/lang/Long", name := "<init>", desc := "(J)V" } : Jvm.MethodName) jdk_35_method_26_code (3 : Nat) (Option.none : Option Jvm.ClassFile.FieldType), Jvm.Cond.code ({ cls := "java/lang/Number", name := "<init>", desc := "()V" } : Jvm.MethodName) jdk_18_method_1_code (1 : Nat) (Option.none : Option Jvm.ClassFile.FieldType)]
set_option maxRecDepth 65536 in
theorem codes_eq : words1.filter isCode = codes1 := rfl
theorem w_codes : ∀ c ∈ words1.filter isCode, c.before args0 about1 = true := by
  rw [codes_eq]
  intro c hc
  simp only [codes1, List.mem_cons, List.not_mem_nil, or_false] at hc
  rcases hc with rfl | rfl | rfl | rfl | rfl | rfl | rfl
  · exact w_c0
  · exact w_c1
  · exact w_c2
  · exact w_c3
  · exact w_c4
  · exact w_c5
  · exact w_c6
set_option maxRecDepth 65536 in
theorem w_t1 : (words1.take 24).all (fun c => isCode c || c.before args0 about1) = true := by decide +kernel
set_option maxRecDepth 65536 in
theorem w_t2 : ((words1.drop 24).take 24).all (fun c => isCode c || c.before args0 about1) = true := by decide +kernel
set_option maxRecDepth 65536 in
theorem w_t3 : ((words1.drop 24).drop 24).all (fun c => isCode c || c.before args0 about1) = true := by decide +kernel
theorem w_tables : (allAtoms (Jvm.Cond.code x code maxLocals ret :: tables_1)).before args0 about1 = true := by
  rw [allAtoms_all]
  show words1.all (fun c => c.before args0 about1) = true
  refine all_split ?_ w_codes
  rw [← List.take_append_drop 24 words1, List.all_append, w_t1, ← List.take_append_drop 24 (words1.drop 24), List.all_append, w_t2, w_t3]
  rfl
set_option maxRecDepth 65536 in
theorem w_rest : rest_1_c.before args0 about1 = true := by decide +kernel
set_option maxRecDepth 65536 in
theorem w_case : (Jvm.Cond.and given_1 narrow_1).before args0 about1 = true := by decide +kernel
theorem w_applies : (headSpec (Jvm.Cond.code x code maxLocals ret :: tables_1) room_1).applies x e0.platform about1 = true :=
  (Spec.applies_iff w_frames).mpr ⟨w_running, w_runnable, w_alone, w_named, w_hears, w_ripe, w_room, w_tables⟩
theorem atStart : AtStart classFile x code maxLocals ret World_1 tables_1 room_1 Calls_1 rest_1 Pre_1 launch0 p0 e0 about1 theMethod args0 below0 :=
  ⟨lists_1, trivial, launch0.admits_env _ _ _, launch0.least_env, fairChoices_fair.cas, fairChoices_fair.clock, w_frames, w_args, w_heap, w_applies, trivial, w_rest, w_case⟩
end start1
theorem witness_1 : WitnessClaimed_1 := ⟨start1.p0, start1.e0, start1.about1, start1.theMethod, start1.args0, start1.below0, start1.atStart⟩
end Jvm.Pilot.@@N@@
