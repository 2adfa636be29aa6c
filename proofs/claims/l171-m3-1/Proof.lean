import JvmDerived
import JvmDerived.Pilot.@@N@@Statement
import JvmDerived.Pilot.@@N@@Code
set_option linter.unusedVariables false
set_option linter.unusedSimpArgs false
namespace Jvm.OwnK
open Sem ClassFile Op Lib Jvm.Stand Jvm.Free Jvm.LawKit Jvm.RoadKit
/-- from cur the body's run returns; Q holds of what it returns, the heap then, the places written; F of the end -/
def EndG (p : Program) (e : Env) (below : List Frame) (F : Outcome → State → List Loc → Prop) (Q : Option Value → Heap → List Loc → Prop) (cur : State) : Prop :=
  ∃ s₂ o, Steps p.tables e below cur s₂ ∧ s₂.status = .running ∧ Ended s₂ below o ∧ ∃ v L, o = .returned v ∧ Q v s₂.heap L ∧ F o s₂ L
abbrev End (p : Program) (e : Env) (below : List Frame) (s : State) (Q : Option Value → Heap → List Loc → Prop) (cl sl : Nat) (cur : State) : Prop := EndG p e below (fun o t L => FrameEnd s o t L cl sl) Q cur
/-- a body's contract: entered with the arguments 'as' at the heap h (tables warmer than Z's) it returns, and Q holds -/
def Con (l : Launch) (Z : State) (y : MethodName) (bytes : ByteArray) (maxL : Nat) (ret : Option FieldType) (ws : List Cond) (rm : Room) (as : Array Value) (h : Heap) (Q : Option Value → Heap → List Loc → Prop) : Prop :=
  MetFree l y (head1 (Cond.code y bytes maxL ret :: ws) rm) (fun a U => a = as ∧ Z.Warmed39 U.vm ∧ U.heap = h) (fun _ _ _ _ _ => True) (fun _ U o U' => ∃ v L, o = .returned v ∧ Q v U'.heap L ∧ FrameEnd U o U' L rm.cells rm.slots)
theorem retI_eq {a b : Int32} (h : b = a) : (some (Value.int a) : Option Value) = some (.int b) := by rw [h]
theorem retJ_eq {a b : Int64} (h : b = a) : (some (Value.long a) : Option Value) = some (.long b) := by rw [h]
theorem retD_eq {a b : UInt64} (h : b = a) : (some (Value.double a) : Option Value) = some (.double b) := by rw [h]
section Steps
variable {p : Program} {l : Launch} {e : Env} {R : Room} {s : State} {m : MethodId} {args : Array Value} {below : List Frame} {meth : Method} {c : Code} {T : State} {locs : List Loc} {cells slots : Nat} {Fe : Outcome → State → List Loc → Prop} {Q : Option Value → Heap → List Loc → Prop} {cl sl : Nat} {pc q : Nat} {Ls : Array Slot} {rest : List Value}
theorem EndG.st {cur nxt : State} (k : EndG p e below Fe Q nxt) (st : ∀ t, Steps p.tables e below nxt t → Steps p.tables e below cur t) : EndG p e below Fe Q cur := by
  obtain ⟨s₂, o, h1, r⟩ := k; exact ⟨s₂, o, st _ h1, r⟩
theorem EndG.tr {cur nxt : State} (k : EndG p e below Fe Q nxt) (st : Steps p.tables e below cur nxt) : EndG p e below Fe Q cur := by
  obtain ⟨s₂, o, h1, r⟩ := k; exact ⟨s₂, o, st.trans h1, r⟩
theorem End.cast {g g' : JFrame} (k : EndG p e below Fe Q (T.setTop g')) (h : g = g') : EndG p e below Fe Q (T.setTop g) := h ▸ k
theorem Con.of {Z : State} {y : MethodName} {bytes : ByteArray} {maxL : Nat} {ret : Option FieldType} {ws : List Cond} {rm : Room} {as : Array Value} {h : Heap} (hpl : plainFor y = true)
    (body : ∀ (p : Program) (e : Env) (s : State) (m : MethodId) (below : List Frame) (meth : Method) (c : Code) (s₁ : State), Stand p l e rm s m as below meth c s₁ [] 0 0 → p.tables.exec = Jvm.exec → c.code = bytes → c.maxLocals = maxL → s.vm.findClass y.cls = some m.cls → meth.name = y.name → meth.sig.returnType = ret → meth.locks = false → Z.Warmed39 s.vm → s₁.heap = h → End p e below s Q rm.cells rm.slots (s₁.setTop (entryFrame m as maxL))) :
    Con l Z y bytes maxL ret ws rm as h Q := by
  refine MetFree.of_bodySF hpl hisR ?_
  intro p e s m args below meth c s₁ Bd hml hP hK
  obtain ⟨rfl, hZ, hh⟩ := hP
  obtain ⟨s₂, o, h1, h2, h3, v, L, h4, h5, h6⟩ := body p e s m below meth c s₁ (Stand.of_body Bd) Bd.exec Bd.bytes hml (findClass_of_methodNamed Bd.named) (name_of_methodNamed Bd.named Bd.method).1 Bd.returns Bd.notSynchronized hZ (by rw [← hh, Bd.state]; rfl)
  exact ⟨s₂, o, h1, h2, h3, v, L, h4, h5, h6⟩
theorem Con.mono {Z : State} {y : MethodName} {bytes : ByteArray} {maxL : Nat} {ret : Option FieldType} {ws : List Cond} {rm : Room} {as : Array Value} {h : Heap} {Q' : Option Value → Heap → List Loc → Prop} (k : Con l Z y bytes maxL ret ws rm as h Q) (hQ : ∀ v hh L, Q v hh L → Q' v hh L) : Con l Z y bytes maxL ret ws rm as h Q' := by
  intro p e ha hc hk s m args below hf happ hP hK
  obtain ⟨n, o, h1, h2, h3, v, L, h4, h5, h6⟩ := k p e ha hc hk s m args below hf happ hP hK
  exact ⟨n, o, h1, h2, h3, v, L, h4, hQ _ _ _ h5, h6⟩
theorem k_iloadN (X : Stand p l e R s m args below meth c T locs cells slots) (hx : p.tables.exec = Jvm.exec) {j : Fin 4} {v : Int32} (hq : pc + 1 = q) (hd : decode c.code pc = .ok (.iload_n j, 1)) (hl : Ls[j.val]? = some (.val (.int v))) (k : EndG p e below Fe Q (T.setTop (mkF m q Ls (.int v :: rest)))) : EndG p e below Fe Q (T.setTop (mkF m pc Ls (rest))) := by
  subst hq; exact k.st fun t w => XS.iloadN X.here hx rfl hd hl w
theorem k_iload (X : Stand p l e R s m args below meth c T locs cells slots) (hx : p.tables.exec = Jvm.exec) {j : Nat} {v : Int32} (hq : pc + 2 = q) (hd : decode c.code pc = .ok (.iload j, 2)) (hl : Ls[j]? = some (.val (.int v))) (k : EndG p e below Fe Q (T.setTop (mkF m q Ls (.int v :: rest)))) : EndG p e below Fe Q (T.setTop (mkF m pc Ls (rest))) := by
  subst hq; exact k.st fun t w => XS.iload X.here hx rfl hd hl w
theorem k_istore (X : Stand p l e R s m args below meth c T locs cells slots) (hx : p.tables.exec = Jvm.exec) {j : Nat} {v : Int32} {L' : Array Slot} (hq : pc + 2 = q) (hd : decode c.code pc = .ok (.istore j, 2)) (hl : storeLocals Ls j (.int v) = some L') (k : EndG p e below Fe Q (T.setTop (mkF m q L' (rest)))) : EndG p e below Fe Q (T.setTop (mkF m pc Ls (.int v :: rest))) := by
  subst hq; exact k.st fun t w => XS.istore X.here hx rfl hd rfl hl w
theorem k_lloadN (X : Stand p l e R s m args below meth c T locs cells slots) (hx : p.tables.exec = Jvm.exec) {j : Fin 4} {v : Int64} (hq : pc + 1 = q) (hd : decode c.code pc = .ok (.lload_n j, 1)) (hl : Ls[j.val]? = some (.val (.long v))) (k : EndG p e below Fe Q (T.setTop (mkF m q Ls (.long v :: rest)))) : EndG p e below Fe Q (T.setTop (mkF m pc Ls (rest))) := by
  subst hq; exact k.st fun t w => XS.lloadN X.here hx rfl hd hl w
theorem k_lload (X : Stand p l e R s m args below meth c T locs cells slots) (hx : p.tables.exec = Jvm.exec) {j : Nat} {v : Int64} (hq : pc + 2 = q) (hd : decode c.code pc = .ok (.lload j, 2)) (hl : Ls[j]? = some (.val (.long v))) (k : EndG p e below Fe Q (T.setTop (mkF m q Ls (.long v :: rest)))) : EndG p e below Fe Q (T.setTop (mkF m pc Ls (rest))) := by
  subst hq; exact k.st fun t w => XS.lload X.here hx rfl hd hl w
theorem k_lstoreN (X : Stand p l e R s m args below meth c T locs cells slots) (hx : p.tables.exec = Jvm.exec) {j : Fin 4} {v : Int64} {L' : Array Slot} (hq : pc + 1 = q) (hd : decode c.code pc = .ok (.lstore_n j, 1)) (hl : storeLocals Ls j.val (.long v) = some L') (k : EndG p e below Fe Q (T.setTop (mkF m q L' (rest)))) : EndG p e below Fe Q (T.setTop (mkF m pc Ls (.long v :: rest))) := by
  subst hq; exact k.st fun t w => XS.lstoreN X.here hx rfl hd rfl hl w
theorem k_aloadN (X : Stand p l e R s m args below meth c T locs cells slots) (hx : p.tables.exec = Jvm.exec) {j : Fin 4} {v : Value} (hq : pc + 1 = q) (hd : decode c.code pc = .ok (.aload_n j, 1)) (hl : Ls[j.val]? = some (.val v)) (hv : v.isRef = true) (k : EndG p e below Fe Q (T.setTop (mkF m q Ls (v :: rest)))) : EndG p e below Fe Q (T.setTop (mkF m pc Ls (rest))) := by
  subst hq; exact k.st fun t w => XS.aloadN X.here hx rfl hd hl hv w
theorem k_aload (X : Stand p l e R s m args below meth c T locs cells slots) (hx : p.tables.exec = Jvm.exec) {j : Nat} {v : Value} (hq : pc + 2 = q) (hd : decode c.code pc = .ok (.aload j, 2)) (hl : Ls[j]? = some (.val v)) (hv : v.isRef = true) (k : EndG p e below Fe Q (T.setTop (mkF m q Ls (v :: rest)))) : EndG p e below Fe Q (T.setTop (mkF m pc Ls (rest))) := by
  subst hq; exact k.st fun t w => XS.aload X.here hx rfl hd hl hv w
theorem k_astore (X : Stand p l e R s m args below meth c T locs cells slots) (hx : p.tables.exec = Jvm.exec) {j : Nat} {v : Value} {L' : Array Slot} (hq : pc + 2 = q) (hd : decode c.code pc = .ok (.astore j, 2)) (hv : v.isRef = true) (hl : storeLocals Ls j v = some L') (k : EndG p e below Fe Q (T.setTop (mkF m q L' (rest)))) : EndG p e below Fe Q (T.setTop (mkF m pc Ls (v :: rest))) := by
  subst hq; exact k.st fun t w => XS.astore X.here hx rfl hd rfl hv hl w
theorem k_iconst (X : Stand p l e R s m args below meth c T locs cells slots) (hx : p.tables.exec = Jvm.exec) {i : Int} {v : Int32} (hv : Int32.ofInt i = v) (hq : pc + 1 = q) (hd : decode c.code pc = .ok (.iconst i, 1)) (k : EndG p e below Fe Q (T.setTop (mkF m q Ls (.int v :: rest)))) : EndG p e below Fe Q (T.setTop (mkF m pc Ls (rest))) := by
  subst hq hv; exact k.st fun t w => XS.iconst X.here hx rfl hd w
theorem k_iadd (X : Stand p l e R s m args below meth c T locs cells slots) (hx : p.tables.exec = Jvm.exec) {x y : Int32} (hq : pc + 1 = q) (hd : decode c.code pc = .ok (.iadd, 1)) (k : EndG p e below Fe Q (T.setTop (mkF m q Ls (.int (x + y) :: rest)))) : EndG p e below Fe Q (T.setTop (mkF m pc Ls (.int y :: .int x :: rest))) := by
  subst hq; exact k.st fun t w => XS.iadd X.here hx rfl hd rfl w
theorem k_iand (X : Stand p l e R s m args below meth c T locs cells slots) (hx : p.tables.exec = Jvm.exec) {x y : Int32} (hq : pc + 1 = q) (hd : decode c.code pc = .ok (.iand, 1)) (k : EndG p e below Fe Q (T.setTop (mkF m q Ls (.int (x &&& y) :: rest)))) : EndG p e below Fe Q (T.setTop (mkF m pc Ls (.int y :: .int x :: rest))) := by
  subst hq; exact k.st fun t w => XS.iand X.here hx rfl hd rfl w
theorem k_irem (X : Stand p l e R s m args below meth c T locs cells slots) (hx : p.tables.exec = Jvm.exec) {x y : Int32} (hq : pc + 1 = q) (hd : decode c.code pc = .ok (.irem, 1)) (hy : y ≠ 0) (k : EndG p e below Fe Q (T.setTop (mkF m q Ls (.int (x % y) :: rest)))) : EndG p e below Fe Q (T.setTop (mkF m pc Ls (.int y :: .int x :: rest))) := by
  subst hq; exact k.st fun t w => iremM X hx rfl hd rfl hy w
theorem k_iushr (X : Stand p l e R s m args below meth c T locs cells slots) (hx : p.tables.exec = Jvm.exec) {x y : Int32} (hq : pc + 1 = q) (hd : decode c.code pc = .ok (.iushr, 1)) (k : EndG p e below Fe Q (T.setTop (mkF m q Ls (.int ((x.toUInt32 >>> (y &&& 31).toUInt32).toInt32) :: rest)))) : EndG p e below Fe Q (T.setTop (mkF m pc Ls (.int y :: .int x :: rest))) := by
  subst hq; exact k.st fun t w => XS.iushr X.here hx rfl hd rfl w
theorem k_goto (X : Stand p l e R s m args below meth c T locs cells slots) (hx : p.tables.exec = Jvm.exec) {o : Int} (ho : 0 ≤ (pc : Int) + o) (hp : ((pc : Int) + o).toNat = q) (hd : decode c.code pc = .ok (.goto o, 3)) (k : EndG p e below Fe Q (T.setTop (mkF m q Ls (rest)))) : EndG p e below Fe Q (T.setTop (mkF m pc Ls (rest))) :=
  k.st fun t w => XS.goto X.here hx rfl (pc0 := pc) (pc' := q) rfl hd ho hp w
theorem k_if_eq (X : Stand p l e R s m args below meth c T locs cells slots) (hx : p.tables.exec = Jvm.exec) {x : Int32} {o : Int} {q1 : Nat} (ho : 0 ≤ (pc : Int) + o) (hp : ((pc : Int) + o).toNat = q1) (hq : pc + 3 = q) (hd : decode c.code pc = .ok (.ifCond .eq o, 3)) (kt : x = 0 → EndG p e below Fe Q (T.setTop (mkF m q1 Ls (rest)))) (kf : ¬ x = 0 → EndG p e below Fe Q (T.setTop (mkF m q Ls (rest)))) : EndG p e below Fe Q (T.setTop (mkF m pc Ls (.int x :: rest))) := by
  by_cases h : x = 0
  · exact (kt h).st fun t w => XS.ifYes X.here hx rfl (pc0 := pc) (pc' := q1) rfl hd rfl (XT.i0_eq_t h) ho hp w
  · subst hq; exact (kf h).st fun t w => XS.ifNo X.here hx rfl hd rfl (XT.i0_eq_f h) w
theorem k_icmp_ne (X : Stand p l e R s m args below meth c T locs cells slots) (hx : p.tables.exec = Jvm.exec) {x y : Int32} {o : Int} {q1 : Nat} (ho : 0 ≤ (pc : Int) + o) (hp : ((pc : Int) + o).toNat = q1) (hq : pc + 3 = q) (hd : decode c.code pc = .ok (.if_icmp .ne o, 3)) (kt : ¬ x = y → EndG p e below Fe Q (T.setTop (mkF m q1 Ls (rest)))) (kf : x = y → EndG p e below Fe Q (T.setTop (mkF m q Ls (rest)))) : EndG p e below Fe Q (T.setTop (mkF m pc Ls (.int y :: .int x :: rest))) := by
  by_cases h : x = y
  · subst hq; exact (kf h).st fun t w => XS.icmpNo X.here hx rfl hd rfl (XT.ii_ne_f h) w
  · exact (kt h).st fun t w => XS.icmpYes X.here hx rfl (pc0 := pc) (pc' := q1) rfl hd rfl (XT.ii_ne_t h) ho hp w
theorem k_icmp_ge (X : Stand p l e R s m args below meth c T locs cells slots) (hx : p.tables.exec = Jvm.exec) {x y : Int32} {o : Int} {q1 : Nat} (ho : 0 ≤ (pc : Int) + o) (hp : ((pc : Int) + o).toNat = q1) (hq : pc + 3 = q) (hd : decode c.code pc = .ok (.if_icmp .ge o, 3)) (kt : ¬ x < y → EndG p e below Fe Q (T.setTop (mkF m q1 Ls (rest)))) (kf : x < y → EndG p e below Fe Q (T.setTop (mkF m q Ls (rest)))) : EndG p e below Fe Q (T.setTop (mkF m pc Ls (.int y :: .int x :: rest))) := by
  by_cases h : x < y
  · subst hq; exact (kf h).st fun t w => XS.icmpNo X.here hx rfl hd rfl (XT.ii_ge_f h) w
  · exact (kt h).st fun t w => XS.icmpYes X.here hx rfl (pc0 := pc) (pc' := q1) rfl hd rfl (XT.ii_ge_t h) ho hp w
theorem k_lcmp_ge (X : Stand p l e R s m args below meth c T locs cells slots) (hx : p.tables.exec = Jvm.exec) {x y : Int64} {o : Int} {q1 : Nat} (ho : 0 ≤ ((pc + 1 : Nat) : Int) + o) (hp : (((pc + 1 : Nat) : Int) + o).toNat = q1) (hq : pc + 1 + 3 = q) (hd0 : decode c.code pc = .ok (.lcmp, 1)) (hd : decode c.code (pc + 1) = .ok (.ifCond .ge o, 3)) (kt : ¬ x < y → EndG p e below Fe Q (T.setTop (mkF m q1 Ls (rest)))) (kf : x < y → EndG p e below Fe Q (T.setTop (mkF m q Ls (rest)))) : EndG p e below Fe Q (T.setTop (mkF m pc Ls (.long y :: .long x :: rest))) := by
  by_cases h : x < y
  · subst hq; exact (kf h).st fun t w => XT.lcmp X.here hx rfl hd0 rfl <| XS.ifNo X.here hx rfl hd rfl (XT.ll_ge_f h) w
  · exact (kt h).st fun t w => XT.lcmp X.here hx rfl hd0 rfl <| XS.ifYes X.here hx rfl (pc0 := pc + 1) (pc' := q1) rfl hd rfl (XT.ll_ge_t h) ho hp w
theorem k_lcmp_gt (X : Stand p l e R s m args below meth c T locs cells slots) (hx : p.tables.exec = Jvm.exec) {x y : Int64} {o : Int} {q1 : Nat} (ho : 0 ≤ ((pc + 1 : Nat) : Int) + o) (hp : (((pc + 1 : Nat) : Int) + o).toNat = q1) (hq : pc + 1 + 3 = q) (hd0 : decode c.code pc = .ok (.lcmp, 1)) (hd : decode c.code (pc + 1) = .ok (.ifCond .gt o, 3)) (kt : y < x → EndG p e below Fe Q (T.setTop (mkF m q1 Ls (rest)))) (kf : ¬ y < x → EndG p e below Fe Q (T.setTop (mkF m q Ls (rest)))) : EndG p e below Fe Q (T.setTop (mkF m pc Ls (.long y :: .long x :: rest))) := by
  by_cases h : y < x
  · exact (kt h).st fun t w => XT.lcmp X.here hx rfl hd0 rfl <| XS.ifYes X.here hx rfl (pc0 := pc + 1) (pc' := q1) rfl hd rfl (XT.ll_gt_t h) ho hp w
  · subst hq; exact (kf h).st fun t w => XT.lcmp X.here hx rfl hd0 rfl <| XS.ifNo X.here hx rfl hd rfl (XT.ll_gt_f h) w
theorem k_icmp_le (X : Stand p l e R s m args below meth c T locs cells slots) (hx : p.tables.exec = Jvm.exec) {x y : Int32} {o : Int} {q1 : Nat} (ho : 0 ≤ (pc : Int) + o) (hp : ((pc : Int) + o).toNat = q1) (hq : pc + 3 = q) (hd : decode c.code pc = .ok (.if_icmp .le o, 3)) (kt : ¬ y < x → EndG p e below Fe Q (T.setTop (mkF m q1 Ls (rest)))) (kf : y < x → EndG p e below Fe Q (T.setTop (mkF m q Ls (rest)))) : EndG p e below Fe Q (T.setTop (mkF m pc Ls (.int y :: .int x :: rest))) := by
  by_cases h : y < x
  · subst hq; exact (kf h).st fun t w => XS.icmpNo X.here hx rfl hd rfl (XT.ii_le_f h) w
  · exact (kt h).st fun t w => XS.icmpYes X.here hx rfl (pc0 := pc) (pc' := q1) rfl hd rfl (XT.ii_le_t h) ho hp w
theorem k_if_le (X : Stand p l e R s m args below meth c T locs cells slots) (hx : p.tables.exec = Jvm.exec) {x : Int32} {o : Int} {q1 : Nat} (ho : 0 ≤ (pc : Int) + o) (hp : ((pc : Int) + o).toNat = q1) (hq : pc + 3 = q) (hd : decode c.code pc = .ok (.ifCond .le o, 3)) (kt : ¬ 0 < x → EndG p e below Fe Q (T.setTop (mkF m q1 Ls (rest)))) (kf : 0 < x → EndG p e below Fe Q (T.setTop (mkF m q Ls (rest)))) : EndG p e below Fe Q (T.setTop (mkF m pc Ls (.int x :: rest))) := by
  by_cases h : 0 < x
  · subst hq; exact (kf h).st fun t w => XS.ifNo X.here hx rfl hd rfl (XT.i0_le_f h) w
  · exact (kt h).st fun t w => XS.ifYes X.here hx rfl (pc0 := pc) (pc' := q1) rfl hd rfl (XT.i0_le_t h) ho hp w
theorem k_retN (X : Stand p l e R s m args below meth c T locs cells slots) (hx : p.tables.exec = Jvm.exec) {z : Int32} {t : FieldType} (hlk : meth.locks = false) (hcl : cells ≤ cl) (hsl : slots ≤ sl) (hret : meth.sig.returnType = some t) (ht : t = .boolean ∨ t = .byte ∨ t = .char ∨ t = .short) (hd : decode c.code pc = .ok (.ireturn, 1)) (hQ : Q (some (.int (nar t z))) T.heap locs) : End p e below s Q cl sl (T.setTop (mkF m pc Ls (.int z :: rest))) := by
  obtain ⟨fs, hr, hrun, hended, hW, hsame⟩ := X.leave (v := (some (.int (nar t z)))) (fun h => by rw [hret] at h; cases h) hlk
  refine ⟨_, _, ?_, hrun, hended, _, _, rfl, hQ, ⟨_, rfl⟩, hW, hsame.mono hcl hsl⟩
  exact retN X hx hret ht hd hr
theorem k_retI (X : Stand p l e R s m args below meth c T locs cells slots) (hx : p.tables.exec = Jvm.exec) {z : Int32} (hlk : meth.locks = false) (hcl : cells ≤ cl) (hsl : slots ≤ sl) (hret : meth.sig.returnType = some .int) (hd : decode c.code pc = .ok (.ireturn, 1)) (hQ : Q (some (.int z)) T.heap locs) : End p e below s Q cl sl (T.setTop (mkF m pc Ls (.int z :: rest))) := by
  obtain ⟨fs, hr, hrun, hended, hW, hsame⟩ := X.leave (v := (some (.int z))) (fun h => by rw [hret] at h; cases h) hlk
  refine ⟨_, _, ?_, hrun, hended, _, _, rfl, hQ, ⟨_, rfl⟩, hW, hsame.mono hcl hsl⟩
  exact retOut X hx hret rfl (Or.inl ⟨rfl, Or.inl rfl, _, rfl⟩) hd hr
theorem k_retV (X : Stand p l e R s m args below meth c T locs cells slots) (hx : p.tables.exec = Jvm.exec)  (hlk : meth.locks = false) (hcl : cells ≤ cl) (hsl : slots ≤ sl) (hret : meth.sig.returnType = none) (hd : decode c.code pc = .ok (.return_, 1)) (hQ : Q none T.heap locs) : End p e below s Q cl sl (T.setTop (mkF m pc Ls ([]))) := by
  obtain ⟨fs, hr, hrun, hended, hW, hsame⟩ := X.leave (v := none) (fun _ => rfl) hlk
  refine ⟨_, _, ?_, hrun, hended, _, _, rfl, hQ, ⟨_, rfl⟩, hW, hsame.mono hcl hsl⟩
  exact X.returnOut hx hret hd hr
variable {Z : State} {a0 : Array Value} {h : Heap}
theorem k_ldcI (X : Stand p l e R s m args below meth c T locs cells slots) (hx : p.tables.exec = Jvm.exec) (hZ : Z.Warmed39 s.vm) {own : String} {index : Nat} {v : Int32} (hown : s.vm.findClass own = some m.cls) (w0 : (Cond.constant own index v).before a0 Z = true) (hq : pc + 2 = q) (hd : decode c.code pc = .ok (.ldc index, 2)) (k : EndG p e below Fe Q (T.setTop (mkF m q Ls (.int v :: rest)))) : EndG p e below Fe Q (T.setTop (mkF m pc Ls (rest))) := by
  subst hq; exact k.st fun t w => X.ldcInt hx hown (mvT hZ w0) (g := (mkF m pc Ls (rest))) rfl hd t w
theorem k_newP (X : Stand p l e R s m args below meth c T locs cells slots) (hx : p.tables.exec = Jvm.exec) (hZ : Z.Warmed39 s.vm) {aty : ArrayType} (w0 : (Cond.arrayClass (newarray.typeOf aty)).before a0 Z = true) (eT : T.heap = h) {n : Int32} (hq : pc + 2 = q) (hd : decode c.code pc = .ok (.newarray aty, 2)) (hn : ¬ n < 0) {cap : Nat} (hcap : n.toNatClampNeg ≤ cap) (hb : cap * 8 ≤ 536870912) (hc : cells + 1 ≤ R.cells) (hl : slots + cap ≤ R.slots) (k : ∀ T' h' a cA, Stand p l e R s m args below meth c T' locs (cells + 1) (slots + cap) → T'.heap = h' → a = h.size → Ext h h' → Arr Z h' a (newA cA (newarray.typeOf aty) n) (newarray.typeOf aty) → EndG p e below Fe Q (T'.setTop (mkF m q Ls (.ref a :: rest)))) : EndG p e below Fe Q (T.setTop (mkF m pc Ls (.int n :: rest))) := by
  subst hq; obtain ⟨T', h', cA, X', e', E', A', st⟩ := newP X hx hZ w0 eT (g := (mkF m pc Ls (.int n :: rest))) rfl hd rfl hn hcap hb hc hl
  exact (k T' h' _ cA X' e' rfl E' A').st st
end Steps
/-- the array at a has n places; the place t holds v t -/
def Ary (Z : State) (h : Heap) (a : Addr) (ty : FieldType) (n : Nat) (v : Nat → Value) : Prop := ∃ c : Cell, Arr Z h a c ty ∧ c.slots.size = n ∧ n < 2 ^ 31 ∧ ∀ t, t < n → c.slots[t]? = some (v t)
/-- g, but x at i -/
def upd {α : Type} (g : Nat → α) (i : Nat) (x : α) : Nat → α := fun t => if t = i then x else g t
theorem upd_same {α : Type} (g : Nat → α) (i : Nat) (x : α) : upd g i x i = x := if_pos rfl
theorem upd_other {α : Type} (g : Nat → α) {i t : Nat} (x : α) (q : t ≠ i) : upd g i x t = g t := if_neg q
section Arys
variable {Z : State} {h h' : Heap} {a b : Addr} {ty : FieldType} {n : Nat} {v w : Nat → Value} {sl : Nat} {x : Value} {ws : List Addr}
theorem Ary.lt (F : Ary Z h a ty n v) : a < h.size := by obtain ⟨c, A, -⟩ := F; exact A.lt
theorem Ary.ext (F : Ary Z h a ty n v) (E : Ext h h') : Ary Z h' a ty n v := by obtain ⟨c, A, r⟩ := F; exact ⟨c, A.ext E, r⟩
theorem Ary.other (F : Ary Z h b ty n v) (W : Wr h h' a sl x) (q : b ≠ a) : Ary Z h' b ty n v := by obtain ⟨c, A, r⟩ := F; exact ⟨c, A.other W q, r⟩
theorem Ary.keep (F : Ary Z h a ty n v) (K : Keep h h' ws) (q : a ∉ ws) : Ary Z h' a ty n v := by obtain ⟨c, A, r⟩ := F; exact ⟨c, ⟨K.2.1 a c A.1 q, A.2⟩, r⟩
theorem Ary.same (F : Ary Z h a ty n v) (W : Wr h h' a sl x) : Ary Z h' a ty n (fun t => if t = sl then x else v t) := by
  obtain ⟨c, A, S, B, H⟩ := F
  refine ⟨_, A.same W, by rw [sz_set, S], B, fun t ht => ?_⟩
  by_cases q : t = sl
  · subst q; simp [Cell.setSlot, S, ht]
  · simp only [if_neg q, Cell.setSlot]; rw [Array.getElem?_setIfInBounds_ne (Ne.symm q)]; exact H t ht
theorem Ary.congr (F : Ary Z h a ty n v) (q : ∀ t, t < n → v t = w t) : Ary Z h a ty n w := by obtain ⟨c, A, S, B, H⟩ := F; exact ⟨c, A, S, B, fun t ht => by rw [H t ht, q t ht]⟩
theorem Ary.new {k : ClassId} {z : Int32} (A : Arr Z h a (newA k ty z) ty) (q : ¬ z < 0) (hn : z.toNatClampNeg = n) : Ary Z h a ty n (fun _ => defaultValue ty) := by
  subst hn; exact ⟨_, A, sz_new _ _ _, (back32 q).2, fun t ht => by simp [newA, ht]⟩
theorem Keep.of_ext (E : Ext h h') : Keep h h' [] := (Keep.refl h []).ext E
def Cls (h : Heap) (a : Addr) (k : ClassId) : Prop := ∃ c : Cell, h[a]? = some c ∧ c.cls = k
theorem Cls.lt {k : ClassId} (F : Cls h a k) : a < h.size := by obtain ⟨c, h1, -⟩ := F; exact (Array.getElem?_eq_some_iff.mp h1).1
theorem Cls.keep {k : ClassId} (F : Cls h a k) (K : Keep h h' ws) : Cls h' a k := by obtain ⟨c, h1, h2⟩ := F; obtain ⟨c', q1, q2, -⟩ := K.2.2 _ _ h1; exact ⟨c', q1, q2.trans h2⟩
theorem Sto.ofA {k : ClassId} {C : String} {y : Addr} (A : Ary Z h a ty n v) (q : Cls h a k) (O : Ovr Z k C) (I : Ins Z h y C true) : Sto Z h a (.ref y) := by
  obtain ⟨c, A, r⟩ := A; obtain ⟨c', q1, q2⟩ := q; cases A.1.symm.trans q1; exact Sto.of A (q2 ▸ O) I
end Arys
theorem acmp_eq_t {a b : Addr} (h : a = b) : XT.acmp .eq (.ref a) (.ref b) = true := by subst h; simp [XT.acmp]
theorem acmp_eq_f {a b : Addr} (h : ¬ a = b) : XT.acmp .eq (.ref a) (.ref b) = false := by simp [XT.acmp, h]
theorem acmp_ne_t {a b : Addr} (h : ¬ a = b) : XT.acmp .ne (.ref a) (.ref b) = true := by simp [XT.acmp, h]
theorem acmp_ne_f {a b : Addr} (h : a = b) : XT.acmp .ne (.ref a) (.ref b) = false := by subst h; simp [XT.acmp]
/-- j names the place i -/
def Ix (j : Int32) (i : Nat) : Prop := ¬ j < 0 ∧ j.toNatClampNeg = i
theorem Ix.in {j : Int32} {i n : Nat} {c : Cell} (q : Ix j i) (S : c.slots.size = n) (hi : i < n) : ¬ (j < 0 ∨ c.slots.size ≤ j.toNatClampNeg) := fun o => o.elim q.1 fun o => by rw [S, q.2] at o; omega
theorem Ix.of {j : Int32} {i : Nat} (q : j.toInt = i) : Ix j i := by
  have h0 : ¬ j < 0 := by rw [Int32.lt_iff_toInt_lt, show (0 : Int32).toInt = 0 from by decide]; omega
  refine ⟨h0, ?_⟩
  have := nat_of h0; omega
theorem Ix.int {j : Int32} {i : Nat} (q : Ix j i) : j.toInt = i := by have := nat_of q.1; rw [q.2] at this; exact this
section Steps
variable {p : Program} {l : Launch} {e : Env} {R : Room} {s : State} {m : MethodId} {args : Array Value} {below : List Frame} {meth : Method} {c : Code} {T : State} {locs : List Loc} {cells slots : Nat} {Fe : Outcome → State → List Loc → Prop} {Q : Option Value → Heap → List Loc → Prop} {cl sl : Nat} {pc q : Nat} {Ls : Array Slot} {rest : List Value}
variable {Z : State} {a0 : Array Value} {h : Heap}
theorem k_arJ (X : Stand p l e R s m args below meth c T locs cells slots) (hx : p.tables.exec = Jvm.exec) (hZ : Z.Warmed39 s.vm) (eT : T.heap = h) {a : Addr} {n : Nat} {v : Nat → Value} {j : Int32} {x : Value} (i : Nat) (hq : pc + 1 = q) (hd : decode c.code pc = .ok (.laload, 1)) (A : Ary Z h a .long n v) (hj : Ix j i) (hi : i < n) (hv : v i = x) (k : EndG p e below Fe Q (T.setTop (mkF m q Ls (x :: rest)))) : EndG p e below Fe Q (T.setTop (mkF m pc Ls (.int j :: .ref a :: rest))) := by
  obtain ⟨ce, A, S, B, H⟩ := A
  subst hq hv; exact k.st fun t w => X.laload hx (j := j) (v := v i) (by rw [eT]; exact A.1) (State.isArrayOf_alike hZ.alike A.2.1) A.2.2 (hj.in S hi) (by rw [hj.2]; exact H i hi) (g := (mkF m pc Ls (.int j :: .ref a :: rest))) rfl rfl hd t w
theorem k_asJ (X : Stand p l e R s m args below meth c T locs cells slots) (hx : p.tables.exec = Jvm.exec) (hZ : Z.Warmed39 s.vm) (eT : T.heap = h) {a : Addr} {n : Nat} {v : Nat → Value} {j : Int32} {x : Int64} (i : Nat) (hq : pc + 1 = q) (hd : decode c.code pc = .ok (.lastore, 1)) (A : Ary Z h a .long n v) (hj : Ix j i) (hi : i < n) (k : ∀ T' h', Stand p l e R s m args below meth c T' (locs ++ [⟨a, i⟩]) cells slots → T'.heap = h' → Wr h h' a i (.long x) → Ary Z h' a .long n (fun t => if t = i then (.long x) else v t) → EndG p e below Fe Q (T'.setTop (mkF m q Ls (rest)))) : EndG p e below Fe Q (T.setTop (mkF m pc Ls (.long x :: .int j :: .ref a :: rest))) := by
  have A0 := A
  obtain ⟨ce, A, S, B, H⟩ := A
  subst hq; obtain ⟨T', h', X', e', W', st⟩ := stJ X hx hZ eT A (hj.in S hi) (g := (mkF m pc Ls (.long x :: .int j :: .ref a :: rest))) rfl rfl hd
  rw [hj.2] at X' W'
  exact (k T' h' X' e' W' (A0.same W')).st st
theorem k_callS (X : Stand p l e R s m args below meth c T locs cells slots) (hx : p.tables.exec = Jvm.exec) (hZ : Z.Warmed39 s.vm) {own : String} {index : Nat} {y : MethodName} {bytes : ByteArray} {maxL : Nat} {ret : Option FieldType} {rm : Room} {as : List Value} {Qc : Option Value → Heap → List Loc → Prop} (hown : s.vm.findClass own = some m.cls) (w1 : (Cond.methodLink own index y).before a0 Z = true) (w2 : (Cond.static y).before a0 Z = true) (w3 : (Cond.initialized y.cls).before a0 Z = true) (w4 : (Cond.code y bytes maxL ret).before a0 Z = true) (hy : y.cls ≠ "java/lang/invoke/MethodHandle" ∧ y.cls ≠ "java/lang/invoke/VarHandle") (W : Nat) (eT : T.heap = h) (hM : Con l Z y bytes maxL ret [] rm (as).toArray h Qc) (hf : rm.frames + 1 ≤ R.frames) (hl : W + (maxL + 11) + rm.locals ≤ R.locals) (hcl : cells + rm.cells ≤ R.cells) (hsl : slots + rm.slots ≤ R.slots) (hls : Ls.size = c.maxLocals) {ps : List FieldType} {rt : Option FieldType} (hpd : parseMethodDescriptor y.desc = some ⟨ps, rt⟩) (hlen : as.length = ps.length) (hW : 2 * 0 + (rest.map fun v => v.category).sum ≤ W) (hq : pc + 3 = q) (hd : decode c.code pc = .ok (.invokestatic index, 3)) (k : ∀ v T' L, Stand p l e R s m args below meth c T' (locs ++ L) (cells + rm.cells) (slots + rm.slots) → Qc v T'.heap L → EndG p e below Fe Q (T'.setTop (mkF m q Ls (v.toList ++ rest)))) : EndG p e below Fe Q (T.setTop (mkF m pc Ls (as.reverse ++ rest))) := by
  subst hq
  obtain ⟨v, _, ⟨T', L', k', n'⟩, -, X', ⟨Lc, hQ, l', y', z'⟩, st⟩ := Jvm.LawKit.callS X hx (y := y) hown (mvT hZ w1) (mvT hZ w2) (mvT hZ w3) (mvT hZ w4) hy (backOf (W := W) hM hZ w4 w3 hf hl) (g := (mkF m pc Ls (as.reverse ++ rest))) rfl hls (argsL := as) (rest := rest) (lenOf hpd hlen) rfl hW hd (fun _ _ => ⟨rfl, eT, hcl, hsl⟩)
  dsimp only [Pt.U, Pt.locs, Pt.cells, Pt.slots] at X' l' y' z' st hQ
  subst l' y' z'
  exact (k v T' Lc X' hQ).st st
end Steps
end Jvm.OwnK
namespace Jvm.Pilot.@@N@@
open Jvm Jvm.ClassFile Sem Op Lib Jvm.Free Jvm.Stand Jvm.LawKit Jvm.RoadKit Jvm.OwnK Bundle Jvm.Pilot.@@N@@.Jvm.D
theorem pn_0 : plainName "com/example/slotwright/slotwright/SortedLongsAtMostPinLaw" = true := by first | (simp [plainName, overriddenIn]; done) | decide +kernel
theorem pn_1 : plainName "com/example/slotwright/slotwright/SortedLongs" = true := by first | (simp [plainName, overriddenIn]; done) | decide +kernel
theorem pd_0 : parseMethodDescriptor "([JII)V" = some ⟨[(.array .long), .int, .int], none⟩ := by decide +kernel
theorem pd_1 : parseMethodDescriptor "(Z)I" = some ⟨[.boolean], some .int⟩ := by decide +kernel
theorem pd_2 : parseMethodDescriptor "([JIJ)I" = some ⟨[(.array .long), .int, .long], some .int⟩ := by decide +kernel
theorem os3_20_0 {z0 : Value} {z1 : Value} {z2 : Value} {z4 : Value} {z5 : Value} {u : Slot} {v : Int32} (h : One u) : storeLocals #[.val z0, .val z1, .val z2, .second, .val z4, .val z5, u] 6 (.int v) = some #[.val z0, .val z1, .val z2, .second, .val z4, .val z5, .val (.int v)] := by
  rcases h with rfl | ⟨w, rfl, hw⟩
  · rfl
  · cases w <;> first | rfl | (simp [Value.category] at hw)
def own_cs (g : Nat → Int64) (i j : Nat) : Nat → Int64 := if g j < g i then (fun t => if t = j then g i else if t = i then g j else g t) else g
def own_sel (p0 p1 p2 p3 : Int64) : Nat → Int64 := fun t => if t = 0 then p0 else if t = 1 then p1 else if t = 2 then p2 else p3
theorem own_lit (k : Nat) (hk : k < 4) : Ix (Int32.ofNat k) k := by
  have : k = 0 ∨ k = 1 ∨ k = 2 ∨ k = 3 := by omega
  rcases this with rfl | rfl | rfl | rfl <;> exact ⟨by decide, by decide⟩
theorem own_mid {lo hi : Int32} {l h : Nat} (q1 : Ix lo l) (q2 : Ix hi h) (hb : l + h < 1000) : Ix (((lo + hi).toUInt32 >>> ((1 : Int32) &&& 31).toUInt32).toInt32) ((l + h) / 2) := by
  apply Ix.of
  have e := c_iushr (lo + hi) 1 1 (by decide) (by decide)
  have e1 := c_iadd lo hi
  have b := rng32 (lo + hi)
  have i1 := q1.int
  have i2 := q2.int
  rw [e]
  have : (lo + hi).toInt = (l : Int) + h := by omega
  rw [this]
  show ((l : Int) + h) % 4294967296 / ((2 ^ 1 : Nat) : Int) = _
  have : ((2 ^ 1 : Nat) : Int) = 2 := by decide
  rw [this]
  omega
theorem own_up {x : Int32} {k : Nat} (q : Ix x k) (hk : k < 1000) : Ix (x + 1) (k + 1) := by
  apply Ix.of
  have e := c_iadd x 1
  have b := rng32 (x + 1)
  have i := q.int
  have e1 : (1 : Int32).toInt = 1 := by decide
  rw [e1] at e
  omega
theorem d1_0 : decode method_2_code 0 = .ok (.aload_n 0, 1) := by decide +kernel
theorem d1_1 : decode method_2_code 1 = .ok (.iload_n 2, 1) := by decide +kernel
theorem d1_2 : decode method_2_code 2 = .ok (.laload, 1) := by decide +kernel
theorem d1_3 : decode method_2_code 3 = .ok (.aload_n 0, 1) := by decide +kernel
theorem d1_4 : decode method_2_code 4 = .ok (.iload_n 1, 1) := by decide +kernel
theorem d1_5 : decode method_2_code 5 = .ok (.laload, 1) := by decide +kernel
theorem d1_6 : decode method_2_code 6 = .ok (.lcmp, 1) := by decide +kernel
theorem d1_7 : decode method_2_code 7 = .ok (.ifCond .ge 17, 3) := by decide +kernel
theorem d1_10 : decode method_2_code 10 = .ok (.aload_n 0, 1) := by decide +kernel
theorem d1_11 : decode method_2_code 11 = .ok (.iload_n 1, 1) := by decide +kernel
theorem d1_12 : decode method_2_code 12 = .ok (.laload, 1) := by decide +kernel
theorem d1_13 : decode method_2_code 13 = .ok (.lstore_n 3, 1) := by decide +kernel
theorem d1_14 : decode method_2_code 14 = .ok (.aload_n 0, 1) := by decide +kernel
theorem d1_15 : decode method_2_code 15 = .ok (.iload_n 1, 1) := by decide +kernel
theorem d1_16 : decode method_2_code 16 = .ok (.aload_n 0, 1) := by decide +kernel
theorem d1_17 : decode method_2_code 17 = .ok (.iload_n 2, 1) := by decide +kernel
theorem d1_18 : decode method_2_code 18 = .ok (.laload, 1) := by decide +kernel
theorem d1_19 : decode method_2_code 19 = .ok (.lastore, 1) := by decide +kernel
theorem d1_20 : decode method_2_code 20 = .ok (.aload_n 0, 1) := by decide +kernel
theorem d1_21 : decode method_2_code 21 = .ok (.iload_n 2, 1) := by decide +kernel
theorem d1_22 : decode method_2_code 22 = .ok (.lload_n 3, 1) := by decide +kernel
theorem d1_23 : decode method_2_code 23 = .ok (.lastore, 1) := by decide +kernel
theorem d1_24 : decode method_2_code 24 = .ok (.return_, 1) := by decide +kernel
theorem ef_1 (m : MethodId) (x0 : Addr) (x1 : Int32) (x2 : Int32) : entryFrame m #[(.ref x0), (.int x1), (.int x2)] 5 = mkF m 0 #[.val (.ref x0), .val (.int x1), .val (.int x2), .unset, .unset] [] := by first | (simp [entryFrame, mkF, argsToLocals, Value.category]; done) | rfl
set_option maxRecDepth 65536 in
set_option maxHeartbeats 40000000 in
theorem rm1 (l : Launch) (Z : State) (a0 : Array Value) (hw : ∀ d ∈ tables_1, d.before a0 Z = true) (x0 : Addr) (x1 : Int32) (x2 : Int32) (h0 : Heap) (n0 : Nat) (Z0 : n0 ≤ h0.size) (g : Nat → Int64) (i' j' : Nat) (hi : Ix x1 i') (hj : Ix x2 j') (hi4 : i' < 4) (hj4 : j' < 4) (V : Ary Z h0 x0 .long 4 (fun t => .long (g t))) (ga : n0 ≤ x0) :
    Con l Z (⟨"com/example/slotwright/slotwright/SortedLongsAtMostPinLaw", "cs", "([JII)V"⟩ : MethodName) method_2_code 5 none [] ({ frames := 0, cells := 0, slots := 0, locals := 0 } : Room) #[(.ref x0), (.int x1), (.int x2)] h0 (fun v h L => v = none ∧ Fr n0 L ∧ Keep h0 h [x0] ∧ Ary Z h x0 .long 4 (fun t => .long (own_cs g i' j' t))) := by
  refine Con.of (plainFor_of_name pn_0) ?_
  intro p e s m below meth c s₁ X0 hx hby hml hown hnm hret hlk hZ e0
  refine End.cast ?_ (ef_1 m x0 x1 x2)
  have N0 := Fr.nil n0
  refine k_aloadN X0 hx (q := 1) rfl (hb hby d1_0) rfl rfl ?_
  refine k_iloadN X0 hx (q := 2) rfl (hb hby d1_1) rfl ?_
  refine k_arJ X0 hx hZ e0 (x := (.long (g j'))) j' (q := 3) rfl (hb hby d1_2) V hj hj4 rfl ?_
  refine k_aloadN X0 hx (q := 4) rfl (hb hby d1_3) rfl rfl ?_
  refine k_iloadN X0 hx (q := 5) rfl (hb hby d1_4) rfl ?_
  refine k_arJ X0 hx hZ e0 (x := (.long (g i'))) i' (q := 6) rfl (hb hby d1_5) V hi hi4 rfl ?_
  refine k_lcmp_ge X0 hx (q1 := 24) (q := 10) (by decide) (by decide) rfl (hb hby d1_6) (hb hby d1_7) (fun hc1 => ?_) (fun hc1 => ?_)
  · exact k_retV X0 hx hlk (by decide) (by decide) hret (hb hby d1_24) ⟨rfl, N0, by rw [e0]; exact (Keep.refl h0 [x0]), by rw [own_cs, if_neg hc1, e0]; exact V⟩
  · refine k_aloadN X0 hx (q := 11) rfl (hb hby d1_10) rfl rfl ?_
    refine k_iloadN X0 hx (q := 12) rfl (hb hby d1_11) rfl ?_
    refine k_arJ X0 hx hZ e0 (x := (.long (g i'))) i' (q := 13) rfl (hb hby d1_12) V hi hi4 rfl ?_
    refine k_lstoreN X0 hx (L' := #[.val (.ref x0), .val (.int x1), .val (.int x2), .val (.long (g i')), .second]) (q := 14) rfl (hb hby d1_13) rfl ?_
    refine k_aloadN X0 hx (q := 15) rfl (hb hby d1_14) rfl rfl ?_
    refine k_iloadN X0 hx (q := 16) rfl (hb hby d1_15) rfl ?_
    refine k_aloadN X0 hx (q := 17) rfl (hb hby d1_16) rfl rfl ?_
    refine k_iloadN X0 hx (q := 18) rfl (hb hby d1_17) rfl ?_
    refine k_arJ X0 hx hZ e0 (x := (.long (g j'))) j' (q := 19) rfl (hb hby d1_18) V hj hj4 rfl ?_
    refine k_asJ X0 hx hZ e0 i' (q := 20) rfl (hb hby d1_19) V hi hi4 ?_
    intro T2 h2 X2 e2 W2 V2
    have K2 := Keep.of_wr W2
    have N2 := Fr.snoc X2 N0 ga
    refine k_aloadN X2 hx (q := 21) rfl (hb hby d1_20) rfl rfl ?_
    refine k_iloadN X2 hx (q := 22) rfl (hb hby d1_21) rfl ?_
    refine k_lloadN X2 hx (q := 23) rfl (hb hby d1_22) rfl ?_
    refine k_asJ X2 hx hZ e2 j' (q := 24) rfl (hb hby d1_23) V2 hj hj4 ?_
    intro T3 h3 X3 e3 W3 V3
    have K3 := Keep.of_wr W3
    have N3 := Fr.snoc X3 N2 ga
    have Kp4 : Keep h0 h2 [x0] := Keep.trans (Keep.refl h0 [x0]) K2 (allS (Or.inl (List.mem_of_getElem? (i := 0) rfl)) all0)
    have Kp5 : Keep h0 h3 [x0] := Keep.trans Kp4 K3 (allS (Or.inl (List.mem_of_getElem? (i := 0) rfl)) all0)
    have VF : Ary Z h3 x0 .long 4 (fun t => .long (own_cs g i' j' t)) := V3.congr fun t ht => by
      rw [own_cs, if_pos hc1]
      by_cases q1 : t = j'
      · simp only [if_pos q1]
      · by_cases q2 : t = i'
        · simp only [if_neg q1, if_pos q2]
        · simp only [if_neg q1, if_neg q2]
    exact k_retV X3 hx hlk (by decide) (by decide) hret (hb hby d1_24) ⟨rfl, N3, by rw [e3]; exact Kp5, by rw [e3]; exact VF⟩
theorem d2_0 : decode method_3_code 0 = .ok (.iload_n 0, 1) := by decide +kernel
theorem d2_1 : decode method_3_code 1 = .ok (.ifCond .eq 7, 3) := by decide +kernel
theorem d2_4 : decode method_3_code 4 = .ok (.iconst 1, 1) := by decide +kernel
theorem d2_5 : decode method_3_code 5 = .ok (.goto 4, 3) := by decide +kernel
theorem d2_8 : decode method_3_code 8 = .ok (.iconst 0, 1) := by decide +kernel
theorem d2_9 : decode method_3_code 9 = .ok (.ireturn, 1) := by decide +kernel
theorem ef_2 (m : MethodId) (x0 : Int32) : entryFrame m #[(.int x0)] 1 = mkF m 0 #[.val (.int x0)] [] := by first | (simp [entryFrame, mkF, argsToLocals, Value.category]; done) | rfl
def f2 (x0 : Int32) : Int32 := (if x0 = (0 : Int32) then (0 : Int32) else (1 : Int32))
set_option maxRecDepth 65536 in
set_option maxHeartbeats 40000000 in
theorem rm2 (l : Launch) (Z : State) (a0 : Array Value) (hw : ∀ d ∈ tables_1, d.before a0 Z = true) (x0 : Int32) (h0 : Heap) (n0 : Nat) :
    Con l Z (⟨"com/example/slotwright/slotwright/SortedLongsAtMostPinLaw", "ind", "(Z)I"⟩ : MethodName) method_3_code 1 (some .int) [] ({ frames := 0, cells := 0, slots := 0, locals := 0 } : Room) #[(.int x0)] h0 (fun v h L => v = some (.int (f2 x0)) ∧ Fr n0 L ∧ h = h0) := by
  refine Con.of (plainFor_of_name pn_0) ?_
  intro p e s m below meth c s₁ X0 hx hby hml hown hnm hret hlk hZ e0
  refine End.cast ?_ (ef_2 m x0)
  have N0 := Fr.nil n0
  refine k_iloadN X0 hx (q := 1) rfl (hb hby d2_0) rfl ?_
  refine k_if_eq X0 hx (q1 := 8) (q := 4) (by decide) (by decide) rfl (hb hby d2_1) (fun hc1 => ?_) (fun hc1 => ?_)
  · refine k_iconst X0 hx (v := (0 : Int32)) rfl (q := 9) rfl (hb hby d2_8) ?_
    exact k_retI X0 hx hlk (by decide) (by decide) hret (hb hby d2_9) ⟨retI_eq ((rfl : f2 x0 = _).trans (if_pos hc1)), N0, e0⟩
  · refine k_iconst X0 hx (v := (1 : Int32)) rfl (q := 5) rfl (hb hby d2_4) ?_
    refine k_goto X0 hx (q := 9) (by decide) (by decide) (hb hby d2_5) ?_
    exact k_retI X0 hx hlk (by decide) (by decide) hret (hb hby d2_9) ⟨retI_eq ((rfl : f2 x0 = _).trans (if_neg hc1)), N0, e0⟩
theorem d3_0 : decode prog_175_method_2_code 0 = .ok (.iconst 0, 1) := by decide +kernel
theorem d3_1 : decode prog_175_method_2_code 1 = .ok (.istore 4, 2) := by decide +kernel
theorem d3_3 : decode prog_175_method_2_code 3 = .ok (.iload_n 1, 1) := by decide +kernel
theorem d3_4 : decode prog_175_method_2_code 4 = .ok (.istore 5, 2) := by decide +kernel
theorem d3_6 : decode prog_175_method_2_code 6 = .ok (.iload 4, 2) := by decide +kernel
theorem d3_8 : decode prog_175_method_2_code 8 = .ok (.iload 5, 2) := by decide +kernel
theorem d3_10 : decode prog_175_method_2_code 10 = .ok (.if_icmp .ge 37, 3) := by decide +kernel
theorem d3_13 : decode prog_175_method_2_code 13 = .ok (.iload 4, 2) := by decide +kernel
theorem d3_15 : decode prog_175_method_2_code 15 = .ok (.iload 5, 2) := by decide +kernel
theorem d3_17 : decode prog_175_method_2_code 17 = .ok (.iadd, 1) := by decide +kernel
theorem d3_18 : decode prog_175_method_2_code 18 = .ok (.iconst 1, 1) := by decide +kernel
theorem d3_19 : decode prog_175_method_2_code 19 = .ok (.iushr, 1) := by decide +kernel
theorem d3_20 : decode prog_175_method_2_code 20 = .ok (.istore 6, 2) := by decide +kernel
theorem d3_22 : decode prog_175_method_2_code 22 = .ok (.aload_n 0, 1) := by decide +kernel
theorem d3_23 : decode prog_175_method_2_code 23 = .ok (.iload 6, 2) := by decide +kernel
theorem d3_25 : decode prog_175_method_2_code 25 = .ok (.laload, 1) := by decide +kernel
theorem d3_26 : decode prog_175_method_2_code 26 = .ok (.lload_n 2, 1) := by decide +kernel
theorem d3_27 : decode prog_175_method_2_code 27 = .ok (.lcmp, 1) := by decide +kernel
theorem d3_28 : decode prog_175_method_2_code 28 = .ok (.ifCond .gt 12, 3) := by decide +kernel
theorem d3_31 : decode prog_175_method_2_code 31 = .ok (.iload 6, 2) := by decide +kernel
theorem d3_33 : decode prog_175_method_2_code 33 = .ok (.iconst 1, 1) := by decide +kernel
theorem d3_34 : decode prog_175_method_2_code 34 = .ok (.iadd, 1) := by decide +kernel
theorem d3_35 : decode prog_175_method_2_code 35 = .ok (.istore 4, 2) := by decide +kernel
theorem d3_37 : decode prog_175_method_2_code 37 = .ok (.goto 7, 3) := by decide +kernel
theorem d3_40 : decode prog_175_method_2_code 40 = .ok (.iload 6, 2) := by decide +kernel
theorem d3_42 : decode prog_175_method_2_code 42 = .ok (.istore 5, 2) := by decide +kernel
theorem d3_44 : decode prog_175_method_2_code 44 = .ok (.goto (-38), 3) := by decide +kernel
theorem d3_47 : decode prog_175_method_2_code 47 = .ok (.iload 4, 2) := by decide +kernel
theorem d3_49 : decode prog_175_method_2_code 49 = .ok (.ireturn, 1) := by decide +kernel
theorem ef_3 (m : MethodId) (x0 : Addr) (x1 : Int32) (x2 : Int64) : entryFrame m #[(.ref x0), (.int x1), (.long x2)] 7 = mkF m 0 #[.val (.ref x0), .val (.int x1), .val (.long x2), .second, .unset, .unset, .unset] [] := by first | (simp [entryFrame, mkF, argsToLocals, Value.category]; done) | rfl
set_option maxRecDepth 65536 in
set_option maxHeartbeats 40000000 in
theorem rm3 (l : Launch) (Z : State) (a0 : Array Value) (hw : ∀ d ∈ tables_1, d.before a0 Z = true) (x0 : Addr) (x1 : Int32) (x2 : Int64) (h0 : Heap) (n0 : Nat) (g : Nat → Int64) (n : Nat) (hn : Ix x1 n) (hn4 : n ≤ 4) (hs : ∀ s t, s ≤ t → t < 4 → ¬ g t < g s) (V : Ary Z h0 x0 .long 4 (fun t => .long (g t))) :
    Con l Z (⟨"com/example/slotwright/slotwright/SortedLongs", "atMost", "([JIJ)I"⟩ : MethodName) prog_175_method_2_code 7 (some .int) [] ({ frames := 0, cells := 0, slots := 0, locals := 0 } : Room) #[(.ref x0), (.int x1), (.long x2)] h0 (fun v h L => ∃ (r : Int32) (k : Nat), v = some (.int r) ∧ Fr n0 L ∧ h = h0 ∧ Ix r k ∧ k ≤ n ∧ (∀ t, t < k → ¬ x2 < g t) ∧ (∀ t, k ≤ t → t < n → x2 < g t)) := by
  refine Con.of (plainFor_of_name pn_1) ?_
  intro p e s m below meth c s₁ X0 hx hby hml hown hnm hret hlk hZ e0
  refine End.cast ?_ (ef_3 m x0 x1 x2)
  have N0 := Fr.nil n0
  have loop : ∀ (d lo hi : Nat) (lo' hi' : Int32) (u : Slot), hi - lo < d → Ix lo' lo → Ix hi' hi → lo ≤ hi → hi ≤ n → (∀ t, t < lo → ¬ x2 < g t) → (∀ t, hi ≤ t → t < n → x2 < g t) → One u → End p e below s (fun v h L => ∃ (r : Int32) (k : Nat), v = some (.int r) ∧ Fr n0 L ∧ h = h0 ∧ Ix r k ∧ k ≤ n ∧ (∀ t, t < k → ¬ x2 < g t) ∧ (∀ t, k ≤ t → t < n → x2 < g t)) 0 0 (s₁.setTop (mkF m 6 #[.val (.ref x0), .val (.int x1), .val (.long x2), .second, .val (.int lo'), .val (.int hi'), u] [])) := by
    intro d
    induction d with
    | zero => intro lo hi lo' hi' u h; omega
    | succ d ih =>
      intro lo hi lo' hi' u hd hlo hhi hle hhn hL hH hu
      refine k_iload X0 hx (q := 8) rfl (hb hby d3_6) rfl ?_
      refine k_iload X0 hx (q := 10) rfl (hb hby d3_8) rfl ?_
      refine k_icmp_ge X0 hx (q1 := 47) (q := 13) (by decide) (by decide) rfl (hb hby d3_10) (fun hc1 => ?_) (fun hc1 => ?_)
      · refine k_iload X0 hx (q := 49) rfl (hb hby d3_47) rfl ?_
        have hlh : lo = hi := by
          rw [Int32.lt_iff_toInt_lt, hlo.int, hhi.int] at hc1; omega
        exact k_retI X0 hx hlk (by decide) (by decide) hret (hb hby d3_49) ⟨lo', lo, rfl, N0, e0, hlo, by omega, hL, fun t h1 h2 => hH t (by omega) h2⟩
      · have hlh : lo < hi := by
          rw [Int32.lt_iff_toInt_lt, hlo.int, hhi.int] at hc1; omega
        refine k_iload X0 hx (q := 15) rfl (hb hby d3_13) rfl ?_
        refine k_iload X0 hx (q := 17) rfl (hb hby d3_15) rfl ?_
        refine k_iadd X0 hx (q := 18) rfl (hb hby d3_17) ?_
        refine k_iconst X0 hx (v := (1 : Int32)) rfl (q := 19) rfl (hb hby d3_18) ?_
        refine k_iushr X0 hx (q := 20) rfl (hb hby d3_19) ?_
        refine k_istore X0 hx (L' := #[.val (.ref x0), .val (.int x1), .val (.long x2), .second, .val (.int lo'), .val (.int hi'), .val (.int (((lo' + hi').toUInt32 >>> ((1 : Int32) &&& 31).toUInt32).toInt32))]) (q := 22) rfl (hb hby d3_20) (os3_20_0 hu) ?_
        have hmid := own_mid hlo hhi (by omega)
        generalize hmd : (((lo' + hi').toUInt32 >>> ((1 : Int32) &&& 31).toUInt32).toInt32) = md
        rw [hmd] at hmid
        refine k_aloadN X0 hx (q := 23) rfl (hb hby d3_22) rfl rfl ?_
        refine k_iload X0 hx (q := 25) rfl (hb hby d3_23) rfl ?_
        refine k_arJ X0 hx hZ e0 (x := (.long (g ((lo + hi) / 2)))) ((lo + hi) / 2) (q := 26) rfl (hb hby d3_25) V hmid (by omega) rfl ?_
        refine k_lloadN X0 hx (q := 27) rfl (hb hby d3_26) rfl ?_
        refine k_lcmp_gt X0 hx (q1 := 40) (q := 31) (by decide) (by decide) rfl (hb hby d3_27) (hb hby d3_28) (fun hc2 => ?_) (fun hc2 => ?_)
        · refine k_iload X0 hx (q := 42) rfl (hb hby d3_40) rfl ?_
          refine k_istore X0 hx (L' := #[.val (.ref x0), .val (.int x1), .val (.long x2), .second, .val (.int lo'), .val (.int md), .val (.int md)]) (q := 44) rfl (hb hby d3_42) rfl ?_
          refine k_goto X0 hx (q := 6) (by decide) (by decide) (hb hby d3_44) ?_
          exact ih lo ((lo + hi) / 2) lo' md _ (by omega) hlo hmid (by omega) (by omega) hL (fun t q1 q2 => by
            by_cases q3 : hi ≤ t
            · exact hH t q3 q2
            · have q4 := hs ((lo + hi) / 2) t q1 (by omega)
              rw [Int64.lt_iff_toInt_lt] at q4 hc2 ⊢; omega) (One.val rfl)
        · refine k_iload X0 hx (q := 33) rfl (hb hby d3_31) rfl ?_
          refine k_iconst X0 hx (v := (1 : Int32)) rfl (q := 34) rfl (hb hby d3_33) ?_
          refine k_iadd X0 hx (q := 35) rfl (hb hby d3_34) ?_
          refine k_istore X0 hx (L' := #[.val (.ref x0), .val (.int x1), .val (.long x2), .second, .val (.int (md + (1 : Int32))), .val (.int hi'), .val (.int md)]) (q := 37) rfl (hb hby d3_35) rfl ?_
          refine k_goto X0 hx (q := 44) (by decide) (by decide) (hb hby d3_37) ?_
          refine k_goto X0 hx (q := 6) (by decide) (by decide) (hb hby d3_44) ?_
          exact ih ((lo + hi) / 2 + 1) hi _ hi' _ (by omega) (own_up hmid (by omega)) hhi (by omega) (by omega) (fun t q1 => by
            have q4 := hs t ((lo + hi) / 2) (by omega) (by omega)
            rw [Int64.lt_iff_toInt_lt] at q4 hc2 ⊢; omega) hH (One.val rfl)
  refine k_iconst X0 hx (v := (0 : Int32)) rfl (q := 1) rfl (hb hby d3_0) ?_
  refine k_istore X0 hx (L' := #[.val (.ref x0), .val (.int x1), .val (.long x2), .second, .val (.int (0 : Int32)), .unset, .unset]) (q := 3) rfl (hb hby d3_1) rfl ?_
  refine k_iloadN X0 hx (q := 4) rfl (hb hby d3_3) rfl ?_
  refine k_istore X0 hx (L' := #[.val (.ref x0), .val (.int x1), .val (.long x2), .second, .val (.int (0 : Int32)), .val (.int x1), .unset]) (q := 6) rfl (hb hby d3_4) rfl ?_
  exact loop (n + 1) 0 n _ _ _ (by omega) ⟨by decide, by decide⟩ hn (by omega) (Nat.le_refl _) (fun t q => by omega) (fun t q1 q2 => by omega) One.u
theorem own_cs01 (p0 p1 p2 p3 : Int64) : ∃ q r : Int64, (∀ t, t < 4 → (Value.long (own_cs (own_sel p0 p1 p2 p3) 0 1 t)) = .long (own_sel q r p2 p3 t)) ∧ ¬ r < q ∧ ((q = p0 ∧ r = p1) ∨ (q = p1 ∧ r = p0)) := by
  by_cases hc : p1 < p0
  · refine ⟨p1, p0, fun t ht => ?_, ?_, Or.inr ⟨rfl, rfl⟩⟩
    · have : t = 0 ∨ t = 1 ∨ t = 2 ∨ t = 3 := by omega
      have hc' : own_sel p0 p1 p2 p3 1 < own_sel p0 p1 p2 p3 0 := hc
      rw [own_cs, if_pos hc']
      rcases this with rfl | rfl | rfl | rfl <;> rfl
    · rw [Int64.lt_iff_toInt_lt] at hc ⊢; omega
  · refine ⟨p0, p1, fun t ht => ?_, hc, Or.inl ⟨rfl, rfl⟩⟩
    have hc' : ¬ own_sel p0 p1 p2 p3 1 < own_sel p0 p1 p2 p3 0 := hc
    rw [own_cs, if_neg hc']
theorem own_cs23 (p0 p1 p2 p3 : Int64) : ∃ q r : Int64, (∀ t, t < 4 → (Value.long (own_cs (own_sel p0 p1 p2 p3) 2 3 t)) = .long (own_sel p0 p1 q r t)) ∧ ¬ r < q ∧ ((q = p2 ∧ r = p3) ∨ (q = p3 ∧ r = p2)) := by
  by_cases hc : p3 < p2
  · refine ⟨p3, p2, fun t ht => ?_, ?_, Or.inr ⟨rfl, rfl⟩⟩
    · have : t = 0 ∨ t = 1 ∨ t = 2 ∨ t = 3 := by omega
      have hc' : own_sel p0 p1 p2 p3 3 < own_sel p0 p1 p2 p3 2 := hc
      rw [own_cs, if_pos hc']
      rcases this with rfl | rfl | rfl | rfl <;> rfl
    · rw [Int64.lt_iff_toInt_lt] at hc ⊢; omega
  · refine ⟨p2, p3, fun t ht => ?_, hc, Or.inl ⟨rfl, rfl⟩⟩
    have hc' : ¬ own_sel p0 p1 p2 p3 3 < own_sel p0 p1 p2 p3 2 := hc
    rw [own_cs, if_neg hc']
theorem own_cs02 (p0 p1 p2 p3 : Int64) : ∃ q r : Int64, (∀ t, t < 4 → (Value.long (own_cs (own_sel p0 p1 p2 p3) 0 2 t)) = .long (own_sel q p1 r p3 t)) ∧ ¬ r < q ∧ ((q = p0 ∧ r = p2) ∨ (q = p2 ∧ r = p0)) := by
  by_cases hc : p2 < p0
  · refine ⟨p2, p0, fun t ht => ?_, ?_, Or.inr ⟨rfl, rfl⟩⟩
    · have : t = 0 ∨ t = 1 ∨ t = 2 ∨ t = 3 := by omega
      have hc' : own_sel p0 p1 p2 p3 2 < own_sel p0 p1 p2 p3 0 := hc
      rw [own_cs, if_pos hc']
      rcases this with rfl | rfl | rfl | rfl <;> rfl
    · rw [Int64.lt_iff_toInt_lt] at hc ⊢; omega
  · refine ⟨p0, p2, fun t ht => ?_, hc, Or.inl ⟨rfl, rfl⟩⟩
    have hc' : ¬ own_sel p0 p1 p2 p3 2 < own_sel p0 p1 p2 p3 0 := hc
    rw [own_cs, if_neg hc']
theorem own_cs13 (p0 p1 p2 p3 : Int64) : ∃ q r : Int64, (∀ t, t < 4 → (Value.long (own_cs (own_sel p0 p1 p2 p3) 1 3 t)) = .long (own_sel p0 q p2 r t)) ∧ ¬ r < q ∧ ((q = p1 ∧ r = p3) ∨ (q = p3 ∧ r = p1)) := by
  by_cases hc : p3 < p1
  · refine ⟨p3, p1, fun t ht => ?_, ?_, Or.inr ⟨rfl, rfl⟩⟩
    · have : t = 0 ∨ t = 1 ∨ t = 2 ∨ t = 3 := by omega
      have hc' : own_sel p0 p1 p2 p3 3 < own_sel p0 p1 p2 p3 1 := hc
      rw [own_cs, if_pos hc']
      rcases this with rfl | rfl | rfl | rfl <;> rfl
    · rw [Int64.lt_iff_toInt_lt] at hc ⊢; omega
  · refine ⟨p1, p3, fun t ht => ?_, hc, Or.inl ⟨rfl, rfl⟩⟩
    have hc' : ¬ own_sel p0 p1 p2 p3 3 < own_sel p0 p1 p2 p3 1 := hc
    rw [own_cs, if_neg hc']
theorem own_cs12 (p0 p1 p2 p3 : Int64) : ∃ q r : Int64, (∀ t, t < 4 → (Value.long (own_cs (own_sel p0 p1 p2 p3) 1 2 t)) = .long (own_sel p0 q r p3 t)) ∧ ¬ r < q ∧ ((q = p1 ∧ r = p2) ∨ (q = p2 ∧ r = p1)) := by
  by_cases hc : p2 < p1
  · refine ⟨p2, p1, fun t ht => ?_, ?_, Or.inr ⟨rfl, rfl⟩⟩
    · have : t = 0 ∨ t = 1 ∨ t = 2 ∨ t = 3 := by omega
      have hc' : own_sel p0 p1 p2 p3 2 < own_sel p0 p1 p2 p3 1 := hc
      rw [own_cs, if_pos hc']
      rcases this with rfl | rfl | rfl | rfl <;> rfl
    · rw [Int64.lt_iff_toInt_lt] at hc ⊢; omega
  · refine ⟨p1, p2, fun t ht => ?_, hc, Or.inl ⟨rfl, rfl⟩⟩
    have hc' : ¬ own_sel p0 p1 p2 p3 2 < own_sel p0 p1 p2 p3 1 := hc
    rw [own_cs, if_neg hc']
theorem own_sort {s0 s1 s2 s3 : Int64} (h1 : ¬ s1 < s0) (h2 : ¬ s2 < s1) (h3 : ¬ s3 < s2) : ∀ s t, s ≤ t → t < 4 → ¬ own_sel s0 s1 s2 s3 t < own_sel s0 s1 s2 s3 s := by
  intro s t hst ht
  have e1 : t = 0 ∨ t = 1 ∨ t = 2 ∨ t = 3 := by omega
  have e2 : s = 0 ∨ s = 1 ∨ s = 2 ∨ s = 3 := by omega
  rw [Int64.lt_iff_toInt_lt] at h1 h2 h3 ⊢
  rcases e1 with rfl | rfl | rfl | rfl <;> rcases e2 with rfl | rfl | rfl | rfl <;> first | omega | (show ¬ (s0).toInt < (s0).toInt; omega) | (show ¬ (s1).toInt < (s0).toInt; omega) | (show ¬ (s1).toInt < (s1).toInt; omega) | (show ¬ (s2).toInt < (s0).toInt; omega) | (show ¬ (s2).toInt < (s1).toInt; omega) | (show ¬ (s2).toInt < (s2).toInt; omega) | (show ¬ (s3).toInt < (s0).toInt; omega) | (show ¬ (s3).toInt < (s1).toInt; omega) | (show ¬ (s3).toInt < (s2).toInt; omega) | (show ¬ (s3).toInt < (s3).toInt; omega)
theorem own_net {a0 a1 a2 a3 b0 b1 b2 b3 c0 c2 d1 d3 e1 e2 : Int64} (h1 : ¬ b1 < b0) (k1 : (b0 = a0 ∧ b1 = a1) ∨ (b0 = a1 ∧ b1 = a0)) (h2 : ¬ b3 < b2) (k2 : (b2 = a2 ∧ b3 = a3) ∨ (b2 = a3 ∧ b3 = a2)) (h3 : ¬ c2 < c0) (k3 : (c0 = b0 ∧ c2 = b2) ∨ (c0 = b2 ∧ c2 = b0)) (h4 : ¬ d3 < d1) (k4 : (d1 = b1 ∧ d3 = b3) ∨ (d1 = b3 ∧ d3 = b1)) (h5 : ¬ e2 < e1) (k5 : (e1 = d1 ∧ e2 = c2) ∨ (e1 = c2 ∧ e2 = d1)) : ¬ e1 < c0 ∧ ¬ e2 < e1 ∧ ¬ d3 < e2 := by
  simp only [Int64.lt_iff_toInt_lt] at *
  clear k1 k2
  rcases k3 with ⟨rfl, rfl⟩ | ⟨rfl, rfl⟩ <;> rcases k4 with ⟨rfl, rfl⟩ | ⟨rfl, rfl⟩ <;> rcases k5 with ⟨rfl, rfl⟩ | ⟨rfl, rfl⟩ <;> refine ⟨?_, ?_, ?_⟩ <;> omega
theorem own_len (x : Int32) : ∃ k : Nat, k ≤ 4 ∧ Ix ((x &&& (2147483647 : Int32)) % (5 : Int32)) k := by
  have e := c_mask x 2147483647 31 (by decide) (by decide)
  have p : (0 : Int) ≤ (x &&& (2147483647 : Int32)).toInt := by rw [e]; exact Int.emod_nonneg _ (by decide)
  have r := (c_irem (x &&& (2147483647 : Int32)) 5 5 (by decide)).1 p
  refine ⟨(((x &&& (2147483647 : Int32)) % (5 : Int32)).toInt).toNat, ?_, Ix.of ?_⟩ <;> omega
theorem own_one {len z value s : Int32 → Int32} : True := trivial
theorem own_bit {len z : Int32} {value s : Int64} {i : Int32} {t k r : Nat} (hi : Ix i t) (hk : Ix len k) (hr : r ≤ k) (hz : z = if i < len ∧ ¬ value < s then 1 else 0) (h1 : t < r → ¬ value < s) (h2 : r ≤ t → t < k → value < s) : f2 z = if t < r then 1 else 0 := by
  have e : i < len ↔ t < k := by rw [Int32.lt_iff_toInt_lt, hi.int, hk.int]; omega
  by_cases q : t < r
  · rw [if_pos ⟨e.mpr (by omega), h1 q⟩] at hz
    rw [hz, if_pos q]; rfl
  · rw [if_neg (fun c => c.2 (h2 (by omega) (e.mp c.1)))] at hz
    rw [hz, if_neg q]; rfl
theorem own_sum {z0 z1 z2 z3 x : Int32} {r : Nat} (hx : Ix x r) (hr : r ≤ 4) (h0 : z0 = if 0 < r then 1 else 0) (h1 : z1 = if 1 < r then 1 else 0) (h2 : z2 = if 2 < r then 1 else 0) (h3 : z3 = if 3 < r then 1 else 0) : x = z0 + z1 + z2 + z3 := by
  have e : x = Int32.ofInt x.toInt := (Int32.ofInt_toInt x).symm
  rw [hx.int] at e
  have : r = 0 ∨ r = 1 ∨ r = 2 ∨ r = 3 ∨ r = 4 := by omega
  rcases this with rfl | rfl | rfl | rfl | rfl <;> rw [e, h0, h1, h2, h3] <;> decide
theorem ef_0 (m : MethodId) (x0 : Int64) (x1 : Int64) (x2 : Int64) (x3 : Int64) (x4 : Int64) (x5 : Int32) : entryFrame m #[(.long x0), (.long x1), (.long x2), (.long x3), (.long x4), (.int x5)] maxLocals = mkF m 0 #[.val (.long x0), .second, .val (.long x1), .second, .val (.long x2), .second, .val (.long x3), .second, .val (.long x4), .second, .val (.int x5), .unset, .unset, .unset, .unset] [] := by first | (simp [entryFrame, mkF, argsToLocals, Value.category, maxLocals]; done) | rfl
set_option maxRecDepth 65536 in
set_option maxHeartbeats 40000000 in
theorem rmL (l : Launch) (Z : State) (a0 : Array Value) (hw : ∀ d ∈ tables_1, d.before a0 Z = true) (x0 : Int64) (x1 : Int64) (x2 : Int64) (x3 : Int64) (x4 : Int64) (x5 : Int32) (h0 : Heap) (n0 : Nat) (Z0 : n0 ≤ h0.size) :
    Con l Z x code maxLocals ret tables_1 room_1 #[(.long x0), (.long x1), (.long x2), (.long x3), (.long x4), (.int x5)] h0 (fun v h L => v = some (.int 1) ∧ Fr n0 L) := by
  refine Con.of (plainFor_of_name pn_0) ?_
  intro p e s m below meth c s₁ X0 hx hby hml hown hnm hret hlk hZ e0
  refine End.cast ?_ (ef_0 m x0 x1 x2 x3 x4 x5)
  have N0 := Fr.nil n0
  refine k_iconst X0 hx (v := (4 : Int32)) rfl (q := 1) rfl (hb hby at_0) ?_
  refine k_newP X0 hx hZ (hw _ (List.mem_of_getElem? (i := 0) rfl)) e0 (q := 3) rfl (hb hby at_1) (by decide) (cap := 4) (by decide) (by decide) (by decide) (by decide) ?_
  intro T1 h1 ar k1 X1 e1 g1 E1 A1
  have K1 := Keep.of_ext E1
  have V1 : Ary Z h1 ar .long 4 (fun _ => .long (0 : Int64)) := Ary.new A1 (by decide) rfl
  refine k_astore X1 hx (L' := #[.val (.long x0), .second, .val (.long x1), .second, .val (.long x2), .second, .val (.long x3), .second, .val (.long x4), .second, .val (.int x5), .val (.ref ar), .unset, .unset, .unset]) (q := 5) rfl (hb hby at_3) rfl rfl ?_
  refine k_aload X1 hx (q := 7) rfl (hb hby at_5) rfl rfl ?_
  refine k_iconst X1 hx (v := (0 : Int32)) rfl (q := 8) rfl (hb hby at_7) ?_
  refine k_lloadN X1 hx (q := 9) rfl (hb hby at_8) rfl ?_
  have ge_ar : n0 ≤ ar := Nat.le_trans Z0 (Nat.le_of_eq g1.symm)
  refine k_asJ X1 hx hZ e1 0 (q := 10) rfl (hb hby at_9) V1 ⟨by decide, by decide⟩ (by decide) ?_
  intro T2 h2 X2 e2 W2 V2
  have K2 := Keep.of_wr W2
  have N2 := Fr.snoc X2 N0 ge_ar
  refine k_aload X2 hx (q := 12) rfl (hb hby at_10) rfl rfl ?_
  refine k_iconst X2 hx (v := (1 : Int32)) rfl (q := 13) rfl (hb hby at_12) ?_
  refine k_lloadN X2 hx (q := 14) rfl (hb hby at_13) rfl ?_
  refine k_asJ X2 hx hZ e2 1 (q := 15) rfl (hb hby at_14) V2 ⟨by decide, by decide⟩ (by decide) ?_
  intro T3 h3 X3 e3 W3 V3
  have K3 := Keep.of_wr W3
  have N3 := Fr.snoc X3 N2 ge_ar
  refine k_aload X3 hx (q := 17) rfl (hb hby at_15) rfl rfl ?_
  refine k_iconst X3 hx (v := (2 : Int32)) rfl (q := 18) rfl (hb hby at_17) ?_
  refine k_lload X3 hx (q := 20) rfl (hb hby at_18) rfl ?_
  refine k_asJ X3 hx hZ e3 2 (q := 21) rfl (hb hby at_20) V3 ⟨by decide, by decide⟩ (by decide) ?_
  intro T4 h4 X4 e4 W4 V4
  have K4 := Keep.of_wr W4
  have N4 := Fr.snoc X4 N3 ge_ar
  refine k_aload X4 hx (q := 23) rfl (hb hby at_21) rfl rfl ?_
  refine k_iconst X4 hx (v := (3 : Int32)) rfl (q := 24) rfl (hb hby at_23) ?_
  refine k_lload X4 hx (q := 26) rfl (hb hby at_24) rfl ?_
  refine k_asJ X4 hx hZ e4 3 (q := 27) rfl (hb hby at_26) V4 ⟨by decide, by decide⟩ (by decide) ?_
  intro T5 h5 X5 e5 W5 V5
  have K5 := Keep.of_wr W5
  have N5 := Fr.snoc X5 N4 ge_ar
  have Va : Ary Z h5 ar .long 4 (fun t => .long (own_sel x0 x1 x2 x3 t)) := V5.congr fun t ht => by
    have : t = 0 ∨ t = 1 ∨ t = 2 ∨ t = 3 := by omega
    rcases this with rfl | rfl | rfl | rfl <;> rfl
  refine k_aload X5 hx (q := 29) rfl (hb hby at_27) rfl rfl ?_
  refine k_iconst X5 hx (v := (0 : Int32)) rfl (q := 30) rfl (hb hby at_29) ?_
  refine k_iconst X5 hx (v := (1 : Int32)) rfl (q := 31) rfl (hb hby at_30) ?_
  have Sz10 : n0 ≤ h1.size := Nat.le_trans Z0 K1.1
  have Sz9 : n0 ≤ h2.size := Nat.le_trans Sz10 K2.1
  have Sz8 : n0 ≤ h3.size := Nat.le_trans Sz9 K3.1
  have Sz7 : n0 ≤ h4.size := Nat.le_trans Sz8 K4.1
  have Sz6 : n0 ≤ h5.size := Nat.le_trans Sz7 K5.1
  refine k_callS X5 hx hZ (y := (⟨"com/example/slotwright/slotwright/SortedLongsAtMostPinLaw", "cs", "([JII)V"⟩ : MethodName)) hown (hw _ (List.mem_of_getElem? (i := 1) rfl)) (hw _ (List.mem_of_getElem? (i := 2) rfl)) (hw _ (List.mem_of_getElem? (i := 3) rfl)) (hw _ (List.mem_of_getElem? (i := 4) rfl)) (by decide) 0 e5 (rm1 l Z a0 hw ar (0 : Int32) (1 : Int32) h5 n0 Sz6 (own_sel x0 x1 x2 x3) 0 1 ⟨by decide, by decide⟩ ⟨by decide, by decide⟩ (by decide) (by decide) Va ge_ar) (by decide) (by decide) (by decide) (by decide) (by rw [hml]; rfl) (as := [(.ref ar), (.int (0 : Int32)), (.int (1 : Int32))]) (rest := []) pd_0 rfl (by first | exact Nat.le_refl _ | simp [Value.category]) (q := 34) rfl (hb hby at_31) ?_
  rintro _ T11 L11 X11 ⟨rfl, N11q, K11, V11⟩
  have N11 := Fr.app N5 N11q
  show End _ _ _ _ _ _ _ (T11.setTop (mkF m 34 #[.val (.long x0), .second, .val (.long x1), .second, .val (.long x2), .second, .val (.long x3), .second, .val (.long x4), .second, .val (.int x5), .val (.ref ar), .unset, .unset, .unset] []))
  obtain ⟨q0, r0, hV0, hn0, hk0⟩ := own_cs01 x0 x1 x2 x3
  have Vb0 := V11.congr hV0
  refine k_aload X11 hx (q := 36) rfl (hb hby at_34) rfl rfl ?_
  refine k_iconst X11 hx (v := (2 : Int32)) rfl (q := 37) rfl (hb hby at_36) ?_
  refine k_iconst X11 hx (v := (3 : Int32)) rfl (q := 38) rfl (hb hby at_37) ?_
  have Sz12 : n0 ≤ T11.heap.size := Nat.le_trans Sz6 K11.1
  refine k_callS X11 hx hZ (y := (⟨"com/example/slotwright/slotwright/SortedLongsAtMostPinLaw", "cs", "([JII)V"⟩ : MethodName)) hown (hw _ (List.mem_of_getElem? (i := 1) rfl)) (hw _ (List.mem_of_getElem? (i := 2) rfl)) (hw _ (List.mem_of_getElem? (i := 3) rfl)) (hw _ (List.mem_of_getElem? (i := 4) rfl)) (by decide) 0 rfl (rm1 l Z a0 hw ar (2 : Int32) (3 : Int32) T11.heap n0 Sz12 (own_sel q0 r0 x2 x3) 2 3 ⟨by decide, by decide⟩ ⟨by decide, by decide⟩ (by decide) (by decide) Vb0 ge_ar) (by decide) (by decide) (by decide) (by decide) (by rw [hml]; rfl) (as := [(.ref ar), (.int (2 : Int32)), (.int (3 : Int32))]) (rest := []) pd_0 rfl (by first | exact Nat.le_refl _ | simp [Value.category]) (q := 41) rfl (hb hby at_38) ?_
  rintro _ T13 L13 X13 ⟨rfl, N13q, K13, V13⟩
  have N13 := Fr.app N11 N13q
  show End _ _ _ _ _ _ _ (T13.setTop (mkF m 41 #[.val (.long x0), .second, .val (.long x1), .second, .val (.long x2), .second, .val (.long x3), .second, .val (.long x4), .second, .val (.int x5), .val (.ref ar), .unset, .unset, .unset] []))
  obtain ⟨q1, r1, hV1, hn1, hk1⟩ := own_cs23 q0 r0 x2 x3
  have Vb1 := V13.congr hV1
  refine k_aload X13 hx (q := 43) rfl (hb hby at_41) rfl rfl ?_
  refine k_iconst X13 hx (v := (0 : Int32)) rfl (q := 44) rfl (hb hby at_43) ?_
  refine k_iconst X13 hx (v := (2 : Int32)) rfl (q := 45) rfl (hb hby at_44) ?_
  have Sz14 : n0 ≤ T13.heap.size := Nat.le_trans Sz12 K13.1
  refine k_callS X13 hx hZ (y := (⟨"com/example/slotwright/slotwright/SortedLongsAtMostPinLaw", "cs", "([JII)V"⟩ : MethodName)) hown (hw _ (List.mem_of_getElem? (i := 1) rfl)) (hw _ (List.mem_of_getElem? (i := 2) rfl)) (hw _ (List.mem_of_getElem? (i := 3) rfl)) (hw _ (List.mem_of_getElem? (i := 4) rfl)) (by decide) 0 rfl (rm1 l Z a0 hw ar (0 : Int32) (2 : Int32) T13.heap n0 Sz14 (own_sel q0 r0 q1 r1) 0 2 ⟨by decide, by decide⟩ ⟨by decide, by decide⟩ (by decide) (by decide) Vb1 ge_ar) (by decide) (by decide) (by decide) (by decide) (by rw [hml]; rfl) (as := [(.ref ar), (.int (0 : Int32)), (.int (2 : Int32))]) (rest := []) pd_0 rfl (by first | exact Nat.le_refl _ | simp [Value.category]) (q := 48) rfl (hb hby at_45) ?_
  rintro _ T15 L15 X15 ⟨rfl, N15q, K15, V15⟩
  have N15 := Fr.app N13 N15q
  show End _ _ _ _ _ _ _ (T15.setTop (mkF m 48 #[.val (.long x0), .second, .val (.long x1), .second, .val (.long x2), .second, .val (.long x3), .second, .val (.long x4), .second, .val (.int x5), .val (.ref ar), .unset, .unset, .unset] []))
  obtain ⟨q2, r2, hV2, hn2, hk2⟩ := own_cs02 q0 r0 q1 r1
  have Vb2 := V15.congr hV2
  refine k_aload X15 hx (q := 50) rfl (hb hby at_48) rfl rfl ?_
  refine k_iconst X15 hx (v := (1 : Int32)) rfl (q := 51) rfl (hb hby at_50) ?_
  refine k_iconst X15 hx (v := (3 : Int32)) rfl (q := 52) rfl (hb hby at_51) ?_
  have Sz16 : n0 ≤ T15.heap.size := Nat.le_trans Sz14 K15.1
  refine k_callS X15 hx hZ (y := (⟨"com/example/slotwright/slotwright/SortedLongsAtMostPinLaw", "cs", "([JII)V"⟩ : MethodName)) hown (hw _ (List.mem_of_getElem? (i := 1) rfl)) (hw _ (List.mem_of_getElem? (i := 2) rfl)) (hw _ (List.mem_of_getElem? (i := 3) rfl)) (hw _ (List.mem_of_getElem? (i := 4) rfl)) (by decide) 0 rfl (rm1 l Z a0 hw ar (1 : Int32) (3 : Int32) T15.heap n0 Sz16 (own_sel q2 r0 r2 r1) 1 3 ⟨by decide, by decide⟩ ⟨by decide, by decide⟩ (by decide) (by decide) Vb2 ge_ar) (by decide) (by decide) (by decide) (by decide) (by rw [hml]; rfl) (as := [(.ref ar), (.int (1 : Int32)), (.int (3 : Int32))]) (rest := []) pd_0 rfl (by first | exact Nat.le_refl _ | simp [Value.category]) (q := 55) rfl (hb hby at_52) ?_
  rintro _ T17 L17 X17 ⟨rfl, N17q, K17, V17⟩
  have N17 := Fr.app N15 N17q
  show End _ _ _ _ _ _ _ (T17.setTop (mkF m 55 #[.val (.long x0), .second, .val (.long x1), .second, .val (.long x2), .second, .val (.long x3), .second, .val (.long x4), .second, .val (.int x5), .val (.ref ar), .unset, .unset, .unset] []))
  obtain ⟨q3, r3, hV3, hn3, hk3⟩ := own_cs13 q2 r0 r2 r1
  have Vb3 := V17.congr hV3
  refine k_aload X17 hx (q := 57) rfl (hb hby at_55) rfl rfl ?_
  refine k_iconst X17 hx (v := (1 : Int32)) rfl (q := 58) rfl (hb hby at_57) ?_
  refine k_iconst X17 hx (v := (2 : Int32)) rfl (q := 59) rfl (hb hby at_58) ?_
  have Sz18 : n0 ≤ T17.heap.size := Nat.le_trans Sz16 K17.1
  refine k_callS X17 hx hZ (y := (⟨"com/example/slotwright/slotwright/SortedLongsAtMostPinLaw", "cs", "([JII)V"⟩ : MethodName)) hown (hw _ (List.mem_of_getElem? (i := 1) rfl)) (hw _ (List.mem_of_getElem? (i := 2) rfl)) (hw _ (List.mem_of_getElem? (i := 3) rfl)) (hw _ (List.mem_of_getElem? (i := 4) rfl)) (by decide) 0 rfl (rm1 l Z a0 hw ar (1 : Int32) (2 : Int32) T17.heap n0 Sz18 (own_sel q2 q3 r2 r3) 1 2 ⟨by decide, by decide⟩ ⟨by decide, by decide⟩ (by decide) (by decide) Vb3 ge_ar) (by decide) (by decide) (by decide) (by decide) (by rw [hml]; rfl) (as := [(.ref ar), (.int (1 : Int32)), (.int (2 : Int32))]) (rest := []) pd_0 rfl (by first | exact Nat.le_refl _ | simp [Value.category]) (q := 62) rfl (hb hby at_59) ?_
  rintro _ T19 L19 X19 ⟨rfl, N19q, K19, V19⟩
  have N19 := Fr.app N17 N19q
  show End _ _ _ _ _ _ _ (T19.setTop (mkF m 62 #[.val (.long x0), .second, .val (.long x1), .second, .val (.long x2), .second, .val (.long x3), .second, .val (.long x4), .second, .val (.int x5), .val (.ref ar), .unset, .unset, .unset] []))
  obtain ⟨q4, r4, hV4, hn4, hk4⟩ := own_cs12 q2 q3 r2 r3
  have Vb4 := V19.congr hV4
  obtain ⟨hs1, hs2, hs3⟩ := own_net hn0 hk0 hn1 hk1 hn2 hk2 hn3 hk3 hn4 hk4
  have hsort := own_sort hs1 hs2 hs3
  obtain ⟨kl, hk4, hlen⟩ := own_len x5
  refine k_iload X19 hx (q := 64) rfl (hb hby at_62) rfl ?_
  refine k_ldcI X19 hx hZ (v := (2147483647 : Int32)) hown (hw _ (List.mem_of_getElem? (i := 5) rfl)) (q := 66) rfl (hb hby at_64) ?_
  refine k_iand X19 hx (q := 67) rfl (hb hby at_66) ?_
  refine k_iconst X19 hx (v := (5 : Int32)) rfl (q := 68) rfl (hb hby at_67) ?_
  refine k_irem X19 hx (q := 69) rfl (hb hby at_68) (by decide) ?_
  refine k_istore X19 hx (L' := #[.val (.long x0), .second, .val (.long x1), .second, .val (.long x2), .second, .val (.long x3), .second, .val (.long x4), .second, .val (.int x5), .val (.ref ar), .val (.int ((x5 &&& (2147483647 : Int32)) % (5 : Int32))), .unset, .unset]) (q := 71) rfl (hb hby at_69) rfl ?_
  generalize hln : ((x5 &&& (2147483647 : Int32)) % (5 : Int32)) = len
  rw [hln] at hlen
  refine k_iload X19 hx (q := 73) rfl (hb hby at_71) rfl ?_
  have J20 : ∀ (z0 : Int32), (z0 = (if (0 : Int32) < len ∧ ¬ x4 < q2 then 1 else 0)) → End p e below s (fun v h L => v = some (.int 1) ∧ Fr n0 L) room_1.cells room_1.slots (T19.setTop (mkF m 91 #[.val (.long x0), .second, .val (.long x1), .second, .val (.long x2), .second, .val (.long x3), .second, .val (.long x4), .second, .val (.int x5), .val (.ref ar), .val (.int len), .unset, .unset] [(.int z0)])) := by
    intro z0 hz0
    refine k_callS X19 hx hZ (y := (⟨"com/example/slotwright/slotwright/SortedLongsAtMostPinLaw", "ind", "(Z)I"⟩ : MethodName)) hown (hw _ (List.mem_of_getElem? (i := 6) rfl)) (hw _ (List.mem_of_getElem? (i := 7) rfl)) (hw _ (List.mem_of_getElem? (i := 3) rfl)) (hw _ (List.mem_of_getElem? (i := 8) rfl)) (by decide) 0 rfl (rm2 l Z a0 hw z0 T19.heap n0) (by decide) (by decide) (by decide) (by decide) (by rw [hml]; rfl) (as := [(.int z0)]) (rest := []) pd_1 rfl (by first | exact Nat.le_refl _ | simp [Value.category]) (q := 94) rfl (hb hby at_91) ?_
    rintro _ T23 L23 X23 ⟨rfl, N23q, e23⟩
    have N23 := Fr.app N19 N23q
    show End _ _ _ _ _ _ _ (T23.setTop (mkF m 94 #[.val (.long x0), .second, .val (.long x1), .second, .val (.long x2), .second, .val (.long x3), .second, .val (.long x4), .second, .val (.int x5), .val (.ref ar), .val (.int len), .unset, .unset] [(.int (f2 z0))]))
    refine k_iload X23 hx (q := 96) rfl (hb hby at_94) rfl ?_
    refine k_iconst X23 hx (v := (1 : Int32)) rfl (q := 97) rfl (hb hby at_96) ?_
    have J24 : ∀ (z1 : Int32), (z1 = (if (1 : Int32) < len ∧ ¬ x4 < q4 then 1 else 0)) → End p e below s (fun v h L => v = some (.int 1) ∧ Fr n0 L) room_1.cells room_1.slots (T23.setTop (mkF m 115 #[.val (.long x0), .second, .val (.long x1), .second, .val (.long x2), .second, .val (.long x3), .second, .val (.long x4), .second, .val (.int x5), .val (.ref ar), .val (.int len), .unset, .unset] [(.int z1), (.int (f2 z0))])) := by
      intro z1 hz1
      refine k_callS X23 hx hZ (y := (⟨"com/example/slotwright/slotwright/SortedLongsAtMostPinLaw", "ind", "(Z)I"⟩ : MethodName)) hown (hw _ (List.mem_of_getElem? (i := 6) rfl)) (hw _ (List.mem_of_getElem? (i := 7) rfl)) (hw _ (List.mem_of_getElem? (i := 3) rfl)) (hw _ (List.mem_of_getElem? (i := 8) rfl)) (by decide) 1 e23 (rm2 l Z a0 hw z1 T19.heap n0) (by decide) (by decide) (by decide) (by decide) (by rw [hml]; rfl) (as := [(.int z1)]) (rest := [(.int (f2 z0))]) pd_1 rfl (by first | exact Nat.le_refl _ | simp [Value.category]) (q := 118) rfl (hb hby at_115) ?_
      rintro _ T27 L27 X27 ⟨rfl, N27q, e27⟩
      have N27 := Fr.app N23 N27q
      show End _ _ _ _ _ _ _ (T27.setTop (mkF m 118 #[.val (.long x0), .second, .val (.long x1), .second, .val (.long x2), .second, .val (.long x3), .second, .val (.long x4), .second, .val (.int x5), .val (.ref ar), .val (.int len), .unset, .unset] [(.int (f2 z1)), (.int (f2 z0))]))
      refine k_iadd X27 hx (q := 119) rfl (hb hby at_118) ?_
      refine k_iload X27 hx (q := 121) rfl (hb hby at_119) rfl ?_
      refine k_iconst X27 hx (v := (2 : Int32)) rfl (q := 122) rfl (hb hby at_121) ?_
      have J28 : ∀ (z2 : Int32), (z2 = (if (2 : Int32) < len ∧ ¬ x4 < r4 then 1 else 0)) → End p e below s (fun v h L => v = some (.int 1) ∧ Fr n0 L) room_1.cells room_1.slots (T27.setTop (mkF m 140 #[.val (.long x0), .second, .val (.long x1), .second, .val (.long x2), .second, .val (.long x3), .second, .val (.long x4), .second, .val (.int x5), .val (.ref ar), .val (.int len), .unset, .unset] [(.int z2), (.int ((f2 z0) + (f2 z1)))])) := by
        intro z2 hz2
        refine k_callS X27 hx hZ (y := (⟨"com/example/slotwright/slotwright/SortedLongsAtMostPinLaw", "ind", "(Z)I"⟩ : MethodName)) hown (hw _ (List.mem_of_getElem? (i := 6) rfl)) (hw _ (List.mem_of_getElem? (i := 7) rfl)) (hw _ (List.mem_of_getElem? (i := 3) rfl)) (hw _ (List.mem_of_getElem? (i := 8) rfl)) (by decide) 1 e27 (rm2 l Z a0 hw z2 T19.heap n0) (by decide) (by decide) (by decide) (by decide) (by rw [hml]; rfl) (as := [(.int z2)]) (rest := [(.int ((f2 z0) + (f2 z1)))]) pd_1 rfl (by first | exact Nat.le_refl _ | simp [Value.category]) (q := 143) rfl (hb hby at_140) ?_
        rintro _ T31 L31 X31 ⟨rfl, N31q, e31⟩
        have N31 := Fr.app N27 N31q
        show End _ _ _ _ _ _ _ (T31.setTop (mkF m 143 #[.val (.long x0), .second, .val (.long x1), .second, .val (.long x2), .second, .val (.long x3), .second, .val (.long x4), .second, .val (.int x5), .val (.ref ar), .val (.int len), .unset, .unset] [(.int (f2 z2)), (.int ((f2 z0) + (f2 z1)))]))
        refine k_iadd X31 hx (q := 144) rfl (hb hby at_143) ?_
        refine k_iload X31 hx (q := 146) rfl (hb hby at_144) rfl ?_
        refine k_iconst X31 hx (v := (3 : Int32)) rfl (q := 147) rfl (hb hby at_146) ?_
        have J32 : ∀ (z3 : Int32), (z3 = (if (3 : Int32) < len ∧ ¬ x4 < r3 then 1 else 0)) → End p e below s (fun v h L => v = some (.int 1) ∧ Fr n0 L) room_1.cells room_1.slots (T31.setTop (mkF m 165 #[.val (.long x0), .second, .val (.long x1), .second, .val (.long x2), .second, .val (.long x3), .second, .val (.long x4), .second, .val (.int x5), .val (.ref ar), .val (.int len), .unset, .unset] [(.int z3), (.int (((f2 z0) + (f2 z1)) + (f2 z2)))])) := by
          intro z3 hz3
          refine k_callS X31 hx hZ (y := (⟨"com/example/slotwright/slotwright/SortedLongsAtMostPinLaw", "ind", "(Z)I"⟩ : MethodName)) hown (hw _ (List.mem_of_getElem? (i := 6) rfl)) (hw _ (List.mem_of_getElem? (i := 7) rfl)) (hw _ (List.mem_of_getElem? (i := 3) rfl)) (hw _ (List.mem_of_getElem? (i := 8) rfl)) (by decide) 1 e31 (rm2 l Z a0 hw z3 T19.heap n0) (by decide) (by decide) (by decide) (by decide) (by rw [hml]; rfl) (as := [(.int z3)]) (rest := [(.int (((f2 z0) + (f2 z1)) + (f2 z2)))]) pd_1 rfl (by first | exact Nat.le_refl _ | simp [Value.category]) (q := 168) rfl (hb hby at_165) ?_
          rintro _ T35 L35 X35 ⟨rfl, N35q, e35⟩
          have N35 := Fr.app N31 N35q
          show End _ _ _ _ _ _ _ (T35.setTop (mkF m 168 #[.val (.long x0), .second, .val (.long x1), .second, .val (.long x2), .second, .val (.long x3), .second, .val (.long x4), .second, .val (.int x5), .val (.ref ar), .val (.int len), .unset, .unset] [(.int (f2 z3)), (.int (((f2 z0) + (f2 z1)) + (f2 z2)))]))
          refine k_iadd X35 hx (q := 169) rfl (hb hby at_168) ?_
          refine k_istore X35 hx (L' := #[.val (.long x0), .second, .val (.long x1), .second, .val (.long x2), .second, .val (.long x3), .second, .val (.long x4), .second, .val (.int x5), .val (.ref ar), .val (.int len), .val (.int ((((f2 z0) + (f2 z1)) + (f2 z2)) + (f2 z3))), .unset]) (q := 171) rfl (hb hby at_169) rfl ?_
          refine k_aload X35 hx (q := 173) rfl (hb hby at_171) rfl rfl ?_
          refine k_iload X35 hx (q := 175) rfl (hb hby at_173) rfl ?_
          refine k_lload X35 hx (q := 177) rfl (hb hby at_175) rfl ?_
          refine k_callS X35 hx hZ (y := (⟨"com/example/slotwright/slotwright/SortedLongs", "atMost", "([JIJ)I"⟩ : MethodName)) hown (hw _ (List.mem_of_getElem? (i := 9) rfl)) (hw _ (List.mem_of_getElem? (i := 10) rfl)) (hw _ (List.mem_of_getElem? (i := 11) rfl)) (hw _ (List.mem_of_getElem? (i := 12) rfl)) (by decide) 0 e35 (rm3 l Z a0 hw ar len x4 T19.heap n0 (own_sel q2 q4 r4 r3) kl hlen hk4 hsort Vb4) (by decide) (by decide) (by decide) (by decide) (by rw [hml]; rfl) (as := [(.ref ar), (.int len), (.long x4)]) (rest := []) pd_2 rfl (by first | exact Nat.le_refl _ | simp [Value.category]) (q := 180) rfl (hb hby at_177) ?_
          rintro _ T36 L36 X36 ⟨r, k, rfl, N36q, e36, hr, hrk, hr1, hr2⟩
          have N36 := Fr.app N35 N36q
          show End _ _ _ _ _ _ _ (T36.setTop (mkF m 180 #[.val (.long x0), .second, .val (.long x1), .second, .val (.long x2), .second, .val (.long x3), .second, .val (.long x4), .second, .val (.int x5), .val (.ref ar), .val (.int len), .val (.int ((((f2 z0) + (f2 z1)) + (f2 z2)) + (f2 z3))), .unset] [(.int r)]))
          refine k_istore X36 hx (L' := #[.val (.long x0), .second, .val (.long x1), .second, .val (.long x2), .second, .val (.long x3), .second, .val (.long x4), .second, .val (.int x5), .val (.ref ar), .val (.int len), .val (.int ((((f2 z0) + (f2 z1)) + (f2 z2)) + (f2 z3))), .val (.int r)]) (q := 182) rfl (hb hby at_180) rfl ?_
          refine k_iload X36 hx (q := 184) rfl (hb hby at_182) rfl ?_
          refine k_iload X36 hx (q := 186) rfl (hb hby at_184) rfl ?_
          have hsum := own_sum hr (by omega) (own_bit (i := (0 : Int32)) (t := 0) ⟨by decide, by decide⟩ hlen hrk hz0 (hr1 0) (hr2 0)) (own_bit (i := (1 : Int32)) (t := 1) ⟨by decide, by decide⟩ hlen hrk hz1 (hr1 1) (hr2 1)) (own_bit (i := (2 : Int32)) (t := 2) ⟨by decide, by decide⟩ hlen hrk hz2 (hr1 2) (hr2 2)) (own_bit (i := (3 : Int32)) (t := 3) ⟨by decide, by decide⟩ hlen hrk hz3 (hr1 3) (hr2 3))
          refine k_icmp_ne X36 hx (q1 := 193) (q := 189) (by decide) (by decide) rfl (hb hby at_186) (fun hc => absurd hsum hc) (fun _ => ?_)
          refine k_iconst X36 hx (v := (1 : Int32)) rfl (q := 190) rfl (hb hby at_189) ?_
          refine k_goto X36 hx (q := 194) (by decide) (by decide) (hb hby at_190) ?_
          exact k_retN X36 hx (t := .boolean) hlk (by decide) (by decide) hret (by simp) (hb hby at_194) ⟨rfl, N36⟩
        refine k_icmp_le X31 hx (q1 := 164) (q := 150) (by decide) (by decide) rfl (hb hby at_147) (fun hc33 => ?_) (fun hc33 => ?_)
        · refine k_iconst X31 hx (v := (0 : Int32)) rfl (q := 165) rfl (hb hby at_164) ?_
          exact J32 _ (by rw [if_neg (fun c => hc33 c.1)])
        · refine k_aload X31 hx (q := 152) rfl (hb hby at_150) rfl rfl ?_
          refine k_iconst X31 hx (v := (3 : Int32)) rfl (q := 153) rfl (hb hby at_152) ?_
          refine k_arJ X31 hx hZ e31 (x := (.long r3)) 3 (q := 154) rfl (hb hby at_153) Vb4 ⟨by decide, by decide⟩ (by decide) rfl ?_
          refine k_lload X31 hx (q := 156) rfl (hb hby at_154) rfl ?_
          refine k_lcmp_gt X31 hx (q1 := 164) (q := 160) (by decide) (by decide) rfl (hb hby at_156) (hb hby at_157) (fun hc34 => ?_) (fun hc34 => ?_)
          · refine k_iconst X31 hx (v := (0 : Int32)) rfl (q := 165) rfl (hb hby at_164) ?_
            exact J32 _ (by rw [if_neg (fun c => c.2 hc34)])
          · refine k_iconst X31 hx (v := (1 : Int32)) rfl (q := 161) rfl (hb hby at_160) ?_
            refine k_goto X31 hx (q := 165) (by decide) (by decide) (hb hby at_161) ?_
            exact J32 _ (by rw [if_pos ⟨hc33, hc34⟩])
      refine k_icmp_le X27 hx (q1 := 139) (q := 125) (by decide) (by decide) rfl (hb hby at_122) (fun hc29 => ?_) (fun hc29 => ?_)
      · refine k_iconst X27 hx (v := (0 : Int32)) rfl (q := 140) rfl (hb hby at_139) ?_
        exact J28 _ (by rw [if_neg (fun c => hc29 c.1)])
      · refine k_aload X27 hx (q := 127) rfl (hb hby at_125) rfl rfl ?_
        refine k_iconst X27 hx (v := (2 : Int32)) rfl (q := 128) rfl (hb hby at_127) ?_
        refine k_arJ X27 hx hZ e27 (x := (.long r4)) 2 (q := 129) rfl (hb hby at_128) Vb4 ⟨by decide, by decide⟩ (by decide) rfl ?_
        refine k_lload X27 hx (q := 131) rfl (hb hby at_129) rfl ?_
        refine k_lcmp_gt X27 hx (q1 := 139) (q := 135) (by decide) (by decide) rfl (hb hby at_131) (hb hby at_132) (fun hc30 => ?_) (fun hc30 => ?_)
        · refine k_iconst X27 hx (v := (0 : Int32)) rfl (q := 140) rfl (hb hby at_139) ?_
          exact J28 _ (by rw [if_neg (fun c => c.2 hc30)])
        · refine k_iconst X27 hx (v := (1 : Int32)) rfl (q := 136) rfl (hb hby at_135) ?_
          refine k_goto X27 hx (q := 140) (by decide) (by decide) (hb hby at_136) ?_
          exact J28 _ (by rw [if_pos ⟨hc29, hc30⟩])
    refine k_icmp_le X23 hx (q1 := 114) (q := 100) (by decide) (by decide) rfl (hb hby at_97) (fun hc25 => ?_) (fun hc25 => ?_)
    · refine k_iconst X23 hx (v := (0 : Int32)) rfl (q := 115) rfl (hb hby at_114) ?_
      exact J24 _ (by rw [if_neg (fun c => hc25 c.1)])
    · refine k_aload X23 hx (q := 102) rfl (hb hby at_100) rfl rfl ?_
      refine k_iconst X23 hx (v := (1 : Int32)) rfl (q := 103) rfl (hb hby at_102) ?_
      refine k_arJ X23 hx hZ e23 (x := (.long q4)) 1 (q := 104) rfl (hb hby at_103) Vb4 ⟨by decide, by decide⟩ (by decide) rfl ?_
      refine k_lload X23 hx (q := 106) rfl (hb hby at_104) rfl ?_
      refine k_lcmp_gt X23 hx (q1 := 114) (q := 110) (by decide) (by decide) rfl (hb hby at_106) (hb hby at_107) (fun hc26 => ?_) (fun hc26 => ?_)
      · refine k_iconst X23 hx (v := (0 : Int32)) rfl (q := 115) rfl (hb hby at_114) ?_
        exact J24 _ (by rw [if_neg (fun c => c.2 hc26)])
      · refine k_iconst X23 hx (v := (1 : Int32)) rfl (q := 111) rfl (hb hby at_110) ?_
        refine k_goto X23 hx (q := 115) (by decide) (by decide) (hb hby at_111) ?_
        exact J24 _ (by rw [if_pos ⟨hc25, hc26⟩])
  refine k_if_le X19 hx (q1 := 90) (q := 76) (by decide) (by decide) rfl (hb hby at_73) (fun hc21 => ?_) (fun hc21 => ?_)
  · refine k_iconst X19 hx (v := (0 : Int32)) rfl (q := 91) rfl (hb hby at_90) ?_
    exact J20 _ (by rw [if_neg (fun c => hc21 c.1)])
  · refine k_aload X19 hx (q := 78) rfl (hb hby at_76) rfl rfl ?_
    refine k_iconst X19 hx (v := (0 : Int32)) rfl (q := 79) rfl (hb hby at_78) ?_
    refine k_arJ X19 hx hZ rfl (x := (.long q2)) 0 (q := 80) rfl (hb hby at_79) Vb4 ⟨by decide, by decide⟩ (by decide) rfl ?_
    refine k_lload X19 hx (q := 82) rfl (hb hby at_80) rfl ?_
    refine k_lcmp_gt X19 hx (q1 := 90) (q := 86) (by decide) (by decide) rfl (hb hby at_82) (hb hby at_83) (fun hc22 => ?_) (fun hc22 => ?_)
    · refine k_iconst X19 hx (v := (0 : Int32)) rfl (q := 91) rfl (hb hby at_90) ?_
      exact J20 _ (by rw [if_neg (fun c => c.2 hc22)])
    · refine k_iconst X19 hx (v := (1 : Int32)) rfl (q := 87) rfl (hb hby at_86) ?_
      refine k_goto X19 hx (q := 91) (by decide) (by decide) (hb hby at_87) ?_
      exact J20 _ (by rw [if_pos ⟨hc21, hc22⟩])
set_option maxRecDepth 65536 in
set_option maxHeartbeats 40000000 in
theorem comes_1 {Post : Tables → Env → Array Value → State → Outcome → State → Prop} (hpost : ∀ tb e args s v u, (limb_1_1.after args s (.returned v) u = true ∧ limb_1_2.after args s (.returned v) u = true ∧ True) → FrameEnd s (.returned v) u (Jvm.fieldLocs frame_1_writes args s ++ Jvm.arrayLocs frame_1_arrays args s ++ Jvm.staticLocs frame_1_statics s) 16 128 → Post tb e args s (.returned v) u) :
    ArmFor flags0 classFile x code maxLocals ret World_1 tables_1 room_1 Calls_1 rest_1 Pre_1 Post := by
  intro l hfl _ _ p e ha hc hk s m args below hf hA hF happ hP
  obtain ⟨hcalls, hrest, hpre⟩ := hP
  obtain ⟨-, -, -, hnamed, -, -, -, hat⟩ := (Spec.applies_iff hf).mp happ
  obtain ⟨hg, hn⟩ := and_e (Cond.before_iff.mp (show (Jvm.Cond.and given_1 narrow_1).before args s = true from hpre))
  obtain ⟨gc, g0⟩ := and_e hg
  obtain ⟨a0, g1⟩ := and_e g0
  obtain ⟨a1, g2⟩ := and_e g1
  obtain ⟨a2, g3⟩ := and_e g2
  obtain ⟨a3, g4⟩ := and_e g3
  obtain ⟨a4, g5⟩ := and_e g4
  obtain ⟨w0, w1, w2, w3, w4, w5, rfl⟩ : ∃ w0 w1 w2 w3 w4 w5 : Value, args = #[w0, w1, w2, w3, w4, w5] := by
    have hs : args.size = 6 := by simpa [Cond.value, given_1] using gc
    obtain ⟨L⟩ := args
    match L, hs with
    | [w0, w1, w2, w3, w4, w5], _ => exact ⟨w0, w1, w2, w3, w4, w5, rfl⟩
  have hw := fun d (hd : d ∈ tables_1) => atoms_spec (ws := Jvm.Cond.code x code maxLocals ret :: tables_1) hat d (List.mem_cons_of_mem _ hd)
  have hfit : Fit s := fun {y c} hc i hi => by
    obtain ⟨ha, rfl⟩ := Array.getElem?_eq_some_iff.mp hc
    have q := List.all_eq_true.mp ((Array.all_eq_true_iff_forall_mem.mp hF) _ (Array.getElem_mem ha)) i (List.mem_range.mpr hi)
    simpa [Array.getElem?_eq_getElem hi] using q
  obtain ⟨i0, ei0⟩ := isL_v a0
  obtain rfl : w0 = (.long i0) := Option.some.inj ei0
  obtain ⟨i1, ei1⟩ := isL_v a1
  obtain rfl : w1 = (.long i1) := Option.some.inj ei1
  obtain ⟨i2, ei2⟩ := isL_v a2
  obtain rfl : w2 = (.long i2) := Option.some.inj ei2
  obtain ⟨i3, ei3⟩ := isL_v a3
  obtain rfl : w3 = (.long i3) := Option.some.inj ei3
  obtain ⟨i4, ei4⟩ := isL_v a4
  obtain rfl : w4 = (.long i4) := Option.some.inj ei4
  obtain ⟨i5, ei5⟩ := is_v g5
  obtain rfl : w5 = (.int i5) := Option.some.inj ei5
  obtain ⟨n, o, h1, h2, h3, _, L, rfl, ⟨rfl, N⟩, hq⟩ := rmL l s _ hw i0 i1 i2 i3 i4 i5 s.heap s.heap.size (Nat.le_refl _) p e ha hc hk s m _ below hf ((Spec.applies_iff_loose hf).mp happ).1 ⟨rfl, State.Warmed39.refl s, rfl⟩ trivial
  refine ⟨n, _, h1, h2, h3, hpost _ _ _ _ _ _ ⟨Cond.after_iff.mpr rfl, Cond.after_iff.mpr (eq_i res_at (Term.int_eval (1)) rfl), trivial⟩ ⟨hq.1, hq.2.1, (hq.2.2.sift fun y hy => Or.inr (N y hy)).mono (by decide) (by decide)⟩⟩
theorem main_1_1 : Claimed_1_1 := comes_1 fun _ _ _ _ _ _ h hF => ⟨h.1, hF⟩
theorem main_1_2 : Claimed_1_2 := comes_1 fun _ _ _ _ _ _ h hF => ⟨h.2.1, hF⟩
end Jvm.Pilot.@@N@@
namespace Jvm.Pilot.@@N@@
open Jvm Jvm.ClassFile Sem Op Lib Jvm.Free Jvm.Stand Jvm.Pilot.@@N@@.Jvm.D
/-! MADE BY PROGRAM (witnessworld.py) out of the Statement's table words and the real class files: 11 classes; the members and pool entries that the words name. The judged class is class 1, her method 3. -/
namespace start1
open Jvm.ClassFile
def u (s : String) : CpInfo := .utf8 (stringToUtf16 s)
/-- a pool by its gaps: so many unusable entries, then the entry; so many at the end -/
def gap : Nat → List CpInfo → List CpInfo
  | 0, r => r
  | n + 1, r => .unusable :: gap n r
def poolList (es : List (Nat × CpInfo)) (last : Nat) : List CpInfo := es.foldr (fun e r => gap e.1 (e.2 :: r)) (gap last [])
def pool (es : List (Nat × CpInfo)) (last : Nat) : Array CpInfo := ⟨poolList es last⟩
def fileOf (pool : Array CpInfo) (this : Nat) (attrs : Array Attribute := #[]) (ms : Array MethodInfo := #[]) (fl : Nat := 33) (sup : Nat := 0) (ifs : Array Nat := #[]) (fds : Array FieldInfo := #[]) : ClassFile where
  minorVersion := 0
  majorVersion := 65
  constantPool := pool
  accessFlags := fl
  thisClass := this
  superClass := sup
  interfaces := ifs
  fields := fds
  methods := ms
  attributes := attrs
def plain (name : String) (sup : Option ClassId) : Class where
  name := name
  kind := .ordinary
  loader := none
  accessFlags := 33
  super := sup
  interfaces := #[]
  cf := none
  fields := #[]
  methods := #[]
  instanceTypes := #[]
  staticTypes := #[]
  resolved := #[]
  callSites := []
  init := .initialized
  statics := none
  mirror := none

def pool0 : Array CpInfo := pool [(5, u "<init>"), (0, u "()V"), (1, .class_ 10), (1, u "java/lang/Object")] 113

def k0m0 : Method := { name := "<init>", desc := "()V", sig := { parameters := [], returnType := none }, accessFlags := 1, code := none }
/-- java/lang/Object -/
def k0 : Class := { plain "java/lang/Object" none with
  accessFlags := 33
  interfaces := #[]
  cf := some (fileOf pool0 8 #[] #[{ accessFlags := 1, nameIndex := 5, descriptorIndex := 6, attributes := #[] }] 33 0 #[] #[])
  fields := #[]
  methods := #[k0m0]
  instanceTypes := #[]
  staticTypes := #[]
  resolved := Array.replicate 124 none
  statics := none }

def pool1 : Array CpInfo := pool [(2, .class_ 4), (1, u "java/lang/Object"), (0, u "<init>"), (0, u "()V"), (0, .methodref 8 9), (0, .class_ 10), (0, .nameAndType 11 12), (0, u "com/example/slotwright/slotwright/SortedLongsAtMostPinLaw"), (0, u "cs"), (0, u "([JII)V"), (0, .integer 2147483647), (0, .methodref 8 15), (0, .nameAndType 16 17), (0, u "ind"), (0, u "(Z)I"), (0, .methodref 19 20), (0, .class_ 21), (0, .nameAndType 22 23), (0, u "com/example/slotwright/slotwright/SortedLongs"), (0, u "atMost"), (0, u "([JIJ)I"), (3, u "law"), (0, u "(JJJJJI)Z")] 4

def k1m0 : Method := { name := "<init>", desc := "()V", sig := { parameters := [], returnType := none }, accessFlags := 2, code := none }
def k1c1 : Code := { maxStack := 4, maxLocals := 5, code := method_2_code, exceptionTable := #[], attributes := #[] }
def k1m1 : Method := { name := "cs", desc := "([JII)V", sig := { parameters := [(.array .long), .int, .int], returnType := none }, accessFlags := 10, code := some k1c1 }
def k1c2 : Code := { maxStack := 1, maxLocals := 1, code := method_3_code, exceptionTable := #[], attributes := #[] }
def k1m2 : Method := { name := "ind", desc := "(Z)I", sig := { parameters := [.boolean], returnType := some .int }, accessFlags := 10, code := some k1c2 }
def k1c3 : Code := { maxStack := 5, maxLocals := 15, code := code, exceptionTable := #[], attributes := #[] }
def k1m3 : Method := { name := "law", desc := "(JJJJJI)Z", sig := { parameters := [.long, .long, .long, .long, .long, .int], returnType := some .boolean }, accessFlags := 9, code := some k1c3 }
/-- com/example/slotwright/slotwright/SortedLongsAtMostPinLaw -/
def k1 : Class := { plain "com/example/slotwright/slotwright/SortedLongsAtMostPinLaw" (some 0) with
  accessFlags := 49
  interfaces := #[]
  cf := some (fileOf pool1 8 #[] #[{ accessFlags := 2, nameIndex := 5, descriptorIndex := 6, attributes := #[] }, { accessFlags := 10, nameIndex := 11, descriptorIndex := 12, attributes := #[] }, { accessFlags := 10, nameIndex := 16, descriptorIndex := 17, attributes := #[] }, { accessFlags := 9, nameIndex := 27, descriptorIndex := 28, attributes := #[] }] 49 2 #[] #[])
  fields := #[]
  methods := #[k1m0, k1m1, k1m2, k1m3]
  instanceTypes := #[]
  staticTypes := #[]
  resolved := Array.replicate 33 none
  statics := none }

def pool2 : Array CpInfo := pool [(2, .class_ 4), (1, u "java/lang/Object"), (0, u "<init>"), (0, u "()V"), (0, .class_ 8), (0, u "com/example/slotwright/slotwright/SortedLongs"), (2, u "atMost"), (0, u "([JIJ)I")] 3

def k2m0 : Method := { name := "<init>", desc := "()V", sig := { parameters := [], returnType := none }, accessFlags := 2, code := none }
def k2c1 : Code := { maxStack := 4, maxLocals := 7, code := prog_175_method_2_code, exceptionTable := #[], attributes := #[] }
def k2m1 : Method := { name := "atMost", desc := "([JIJ)I", sig := { parameters := [(.array .long), .int, .long], returnType := some .int }, accessFlags := 8, code := some k2c1 }
/-- com/example/slotwright/slotwright/SortedLongs -/
def k2 : Class := { plain "com/example/slotwright/slotwright/SortedLongs" (some 0) with
  accessFlags := 48
  interfaces := #[]
  cf := some (fileOf pool2 7 #[] #[{ accessFlags := 2, nameIndex := 5, descriptorIndex := 6, attributes := #[] }, { accessFlags := 8, nameIndex := 11, descriptorIndex := 12, attributes := #[] }] 48 2 #[] #[])
  fields := #[]
  methods := #[k2m0, k2m1]
  instanceTypes := #[]
  staticTypes := #[]
  resolved := Array.replicate 16 none
  statics := none }

def pool3 : Array CpInfo := pool [(1, u "java/lang/Cloneable"), (0, .class_ 1), (0, u "java/lang/Object"), (0, .class_ 3)] 3

/-- java/lang/Cloneable -/
def k3 : Class := { plain "java/lang/Cloneable" (some 0) with
  accessFlags := 1537
  interfaces := #[]
  cf := some (fileOf pool3 2 #[] #[] 1537 4 #[] #[])
  fields := #[]
  methods := #[]
  instanceTypes := #[]
  staticTypes := #[]
  resolved := Array.replicate 8 none
  statics := none }

def pool4 : Array CpInfo := pool [(1, u "java/io/Serializable"), (0, .class_ 1), (0, u "java/lang/Object"), (0, .class_ 3)] 3

/-- java/io/Serializable -/
def k4 : Class := { plain "java/io/Serializable" (some 0) with
  accessFlags := 1537
  interfaces := #[]
  cf := some (fileOf pool4 2 #[] #[] 1537 4 #[] #[])
  fields := #[]
  methods := #[]
  instanceTypes := #[]
  staticTypes := #[]
  resolved := Array.replicate 8 none
  statics := none }

/-- the primitive byte -/
def k5 : Class := { plain "byte" none with kind := .primitive 'B', accessFlags := 0x411 }
/-- [B -/
def k6 : Class := { plain "[B" (some 0) with kind := .array 5 .byte, interfaces := #[3, 4], accessFlags := 1041 }

/-- the primitive int -/
def k7 : Class := { plain "int" none with kind := .primitive 'I', accessFlags := 0x411 }
/-- [I -/
def k8 : Class := { plain "[I" (some 0) with kind := .array 7 .int, interfaces := #[3, 4], accessFlags := 1041 }

/-- the primitive long -/
def k9 : Class := { plain "long" none with kind := .primitive 'J', accessFlags := 0x411 }
/-- [J -/
def k10 : Class := { plain "[J" (some 0) with kind := .array 9 .long, interfaces := #[3, 4], accessFlags := 1041 }

def heap : Heap := #[]
def classes : Array Class := #[k0, k1, k2, k3, k4, k5, k6, k7, k8, k9, k10]
def interned : List (Array UInt16 × Addr) := []
def slotsUsed : Nat := 0
def theMethod : MethodId := ⟨1, 3⟩
def args0 : Array Value := #[.long 5, .long 3, .long 9, .long 1, .long 4, .int 4]
def aboutOver (below : List Frame) : State where
  vm := { classes := classes, interned := interned.toArray }
  heap := heap
  slotsUsed := slotsUsed
  threads := #[{ frames := .invoking theMethod args0 :: below }]
def below0 : List Frame := [.native { method := ⟨0, 0⟩, args := #[] }]
def about1 : State := aboutOver below0
def p0 : Program := .bare "" "" ""
def e0 : Env := launch0.env 0 0 0
theorem w_frames : about1.frames = Frame.invoking theMethod args0 :: below0 := rfl
set_option maxRecDepth 65536 in
theorem w_args : argsFit about1.vm theMethod args0 = true := by decide +kernel
set_option maxRecDepth 65536 in
theorem w_heap : heapFits about1 = true := by decide +kernel
set_option maxRecDepth 65536 in
theorem w_runnable : about1.curStatus? = some .runnable := by decide +kernel
set_option maxRecDepth 65536 in
theorem w_alone : about1.alone = true := by decide +kernel
set_option maxRecDepth 65536 in
theorem w_named : about1.methodNamed? x = some theMethod := by decide +kernel
set_option maxRecDepth 65536 in
theorem w_hears : about1.hears theMethod below0 = true := by decide +kernel
set_option maxRecDepth 65536 in
theorem w_ripe : about1.ripe theMethod args0 below0 = true := by decide +kernel
theorem w_running : about1.status = .running := rfl
set_option maxRecDepth 65536 in
theorem w_room : about1.hasRoom e0.platform room_1 = true :=
  launch0.hasRoom_least _ room_1 (by decide +kernel) (by decide +kernel) (by decide +kernel) (by decide +kernel) (by decide +kernel) (by decide +kernel)
theorem allAtoms_all (ts : List Jvm.Cond) (a : Array Jvm.Value) (st : Jvm.State) : (allAtoms ts).before a st = ts.all (fun c => c.before a st) := by
  induction ts with
  | nil => rfl
  | cons c t ih =>
    show (Jvm.Cond.and c (allAtoms t)).before a st = _
    rw [Jvm.Cond.before_and, ih, List.all_cons]
def words1 : List Jvm.Cond := Jvm.Cond.code x code maxLocals ret :: tables_1
/-- a 'code' word, met by the world's own term for the bytes: nothing is compared byte by byte -/
theorem code_word {y : MethodName} {bytes : ByteArray} {mx : Nat} {rt : Option FieldType} {a : Array Value} {s : State} {m : MethodId} {meth : Method} {c : Code} (h1 : s.methodNamed? y = some m) (h2 : s.vm.method? m = some meth) (h3 : meth.code = some c) (h4 : c.code = bytes)
    (h5 : (c.maxLocals == mx && c.exceptionTable.isEmpty && decide (c.maxStack ≤ mostOperands) && decide (meth.sig.returnType = rt) && !meth.locks && decide (parseMethodDescriptor y.desc = some meth.sig)) = true) : (Jvm.Cond.code y bytes mx rt).before a s = true := by
  simp only [Bool.and_eq_true, beq_iff_eq, Bool.not_eq_true', decide_eq_true_eq] at h5
  obtain ⟨⟨⟨⟨⟨g1, g2⟩, g3⟩, g4⟩, g5⟩, g6⟩ := h5
  simp [Cond.before, Cond.holds, Cond.value, h1, h2, h3, h4, g1, g2, g3, g4, g5, g6]
def isCode : Jvm.Cond → Bool
  | .code _ _ _ _ => true
  | _ => false
theorem all_split {L : List Jvm.Cond} {P : Jvm.Cond → Bool} (h1 : L.all (fun c => isCode c || P c) = true) (h2 : ∀ c ∈ L.filter isCode, P c = true) : L.all P = true := by
  refine List.all_eq_true.mpr fun c hc => ?_
  have h := List.all_eq_true.mp h1 c hc
  rcases Bool.eq_false_or_eq_true (isCode c) with hi | hi
  · exact h2 c (List.mem_filter.mpr ⟨hc, hi⟩)
  · simpa [hi] using h
set_option maxRecDepth 65536 in
theorem w_c0 : (Jvm.Cond.code x code maxLocals ret).before args0 about1 = true := code_word (m := ⟨1, 3⟩) (meth := k1m3) (c := k1c3) (by decide +kernel) rfl rfl rfl (by decide +kernel)
set_option maxRecDepth 65536 in
theorem w_c1 : (Jvm.Cond.code ({ cls := "com/example/slotwright/slotwright/SortedLongsAtMostPinLaw", name := "cs", desc := "([JII)V" } : Jvm.MethodName) method_2_code (5 : Nat) (Option.none : Option Jvm.ClassFile.FieldType)).before args0 about1 = true := code_word (m := ⟨1, 1⟩) (meth := k1m1) (c := k1c1) (by decide +kernel) rfl rfl rfl (by decide +kernel)
set_option maxRecDepth 65536 in
theorem w_c2 : (Jvm.Cond.code ({ cls := "com/example/slotwright/slotwright/SortedLongsAtMostPinLaw", name := "ind", desc := "(Z)I" } : Jvm.MethodName) method_3_code (1 : Nat) (Option.some Jvm.ClassFile.FieldType.int)).before args0 about1 = true := code_word (m := ⟨1, 2⟩) (meth := k1m2) (c := k1c2) (by decide +kernel) rfl rfl rfl (by decide +kernel)
set_option maxRecDepth 65536 in
theorem w_c3 : (Jvm.Cond.code ({ cls := "com/example/slotwright/slotwright/SortedLongs", name := "atMost", desc := "([JIJ)I" } : Jvm.MethodName) prog_175_method_2_code (7 : Nat) (Option.some Jvm.ClassFile.FieldType.int)).before args0 about1 = true := code_word (m := ⟨2, 1⟩) (meth := k2m1) (c := k2c1) (by decide +kernel) rfl rfl rfl (by decide +kernel)
def codes1 : List Jvm.Cond := [Jvm.Cond.code x code maxLocals ret, Jvm.Cond.code ({ cls := "com/example/slotwright/slotwright/SortedLongsAtMostPinLaw", name := "cs", desc := "([JII)V" } : Jvm.MethodName) method_2_code (5 : Nat) (Option.none : Option Jvm.ClassFile.FieldType), Jvm.Cond.code ({ cls := "com/example/slotwright/slotwright/SortedLongsAtMostPinLaw", name := "ind", desc := "(Z)I" } : Jvm.MethodName) method_3_code (1 : Nat) (Option.some Jvm.ClassFile.FieldType.int), Jvm.Cond.code ({ cls := "com/example/slotwright/slotwright/SortedLongs", name := "atMost", desc := "([JIJ)I" } : Jvm.MethodName) prog_175_method_2_code (7 : Nat) (Option.some Jvm.ClassFile.FieldType.int)]
set_option maxRecDepth 65536 in
theorem codes_eq : words1.filter isCode = codes1 := rfl
theorem w_codes : ∀ c ∈ words1.filter isCode, c.before args0 about1 = true := by
  rw [codes_eq]
  intro c hc
  simp only [codes1, List.mem_cons, List.not_mem_nil, or_false] at hc
  rcases hc with rfl | rfl | rfl | rfl
  · exact w_c0
  · exact w_c1
  · exact w_c2
  · exact w_c3
set_option maxRecDepth 65536 in
theorem w_t1 : words1.all (fun c => isCode c || c.before args0 about1) = true := by decide +kernel
theorem w_tables : (allAtoms (Jvm.Cond.code x code maxLocals ret :: tables_1)).before args0 about1 = true := by
  rw [allAtoms_all]
  show words1.all (fun c => c.before args0 about1) = true
  refine all_split ?_ w_codes
  rw [w_t1]
set_option maxRecDepth 65536 in
theorem w_case : (Jvm.Cond.and given_1 narrow_1).before args0 about1 = true := by decide +kernel
theorem w_applies : (headSpec (Jvm.Cond.code x code maxLocals ret :: tables_1) room_1).applies x e0.platform about1 = true :=
  (Spec.applies_iff w_frames).mpr ⟨w_running, w_runnable, w_alone, w_named, w_hears, w_ripe, w_room, w_tables⟩
theorem atStart : AtStart classFile x code maxLocals ret World_1 tables_1 room_1 Calls_1 rest_1 Pre_1 launch0 p0 e0 about1 theMethod args0 below0 :=
  ⟨lists_1, trivial, launch0.admits_env _ _ _, launch0.least_env, fairChoices_fair.cas, fairChoices_fair.clock, w_frames, w_args, w_heap, w_applies, trivial, trivial, w_case⟩
end start1
theorem witness_1 : WitnessClaimed_1 := ⟨start1.p0, start1.e0, start1.about1, start1.theMethod, start1.args0, start1.below0, start1.atStart⟩
end Jvm.Pilot.@@N@@
