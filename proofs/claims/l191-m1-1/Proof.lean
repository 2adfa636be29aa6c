import JvmDerived
import JvmDerived.Pilot.@@N@@Statement
import JvmDerived.Pilot.@@N@@Code
set_option linter.unusedVariables false
set_option linter.unusedSimpArgs false
namespace Jvm.OwnK
open Sem ClassFile Op Lib Jvm.Stand Jvm.Free Jvm.LawKit Jvm.RoadKit
/-- from cur the body's run returns; Q holds of what it returns, the heap then, the places written; F of the end -/
def EndG (p : Program) (e : Env) (below : List Frame) (F : Outcome → State → List Loc → Prop) (Q : Option Value → Heap → List Loc → Prop) (cur : State) : Prop :=
  ∃ s₂ o, Steps p.tables e below cur s₂ ∧ s₂.status = .running ∧ Ended s₂ below o ∧ ∃ v L, o = .returned v ∧ Q v s₂.heap L ∧ F o s₂ L
abbrev End (p : Program) (e : Env) (below : List Frame) (s : State) (Q : Option Value → Heap → List Loc → Prop) (cl sl : Nat) (cur : State) : Prop := EndG p e below (fun o t L => FrameEnd s o t L cl sl) Q cur
/-- a body's contract: entered with the arguments 'as' at the heap h (tables warmer than Z's) it returns, and Q holds -/
def Con (l : Launch) (Z : State) (y : MethodName) (bytes : ByteArray) (maxL : Nat) (ret : Option FieldType) (ws : List Cond) (rm : Room) (as : Array Value) (h : Heap) (Q : Option Value → Heap → List Loc → Prop) : Prop :=
  MetFree l y (head1 (Cond.code y bytes maxL ret :: ws) rm) (fun a U => a = as ∧ Z.Warmed39 U.vm ∧ U.heap = h) (fun _ _ _ _ _ => True) (fun _ U o U' => ∃ v L, o = .returned v ∧ Q v U'.heap L ∧ FrameEnd U o U' L rm.cells rm.slots)
theorem retI_eq {a b : Int32} (h : b = a) : (some (Value.int a) : Option Value) = some (.int b) := by rw [h]
theorem retJ_eq {a b : Int64} (h : b = a) : (some (Value.long a) : Option Value) = some (.long b) := by rw [h]
theorem retD_eq {a b : UInt64} (h : b = a) : (some (Value.double a) : Option Value) = some (.double b) := by rw [h]
section Steps
variable {p : Program} {l : Launch} {e : Env} {R : Room} {s : State} {m : MethodId} {args : Array Value} {below : List Frame} {meth : Method} {c : Code} {T : State} {locs : List Loc} {cells slots : Nat} {Fe : Outcome → State → List Loc → Prop} {Q : Option Value → Heap → List Loc → Prop} {cl sl : Nat} {pc q : Nat} {Ls : Array Slot} {rest : List Value}
theorem EndG.st {cur nxt : State} (k : EndG p e below Fe Q nxt) (st : ∀ t, Steps p.tables e below nxt t → Steps p.tables e below cur t) : EndG p e below Fe Q cur := by
  obtain ⟨s₂, o, h1, r⟩ := k; exact ⟨s₂, o, st _ h1, r⟩
theorem EndG.tr {cur nxt : State} (k : EndG p e below Fe Q nxt) (st : Steps p.tables e below cur nxt) : EndG p e below Fe Q cur := by
  obtain ⟨s₂, o, h1, r⟩ := k; exact ⟨s₂, o, st.trans h1, r⟩
theorem End.cast {g g' : JFrame} (k : EndG p e below Fe Q (T.setTop g')) (h : g = g') : EndG p e below Fe Q (T.setTop g) := h ▸ k
theorem Con.of {Z : State} {y : MethodName} {bytes : ByteArray} {maxL : Nat} {ret : Option FieldType} {ws : List Cond} {rm : Room} {as : Array Value} {h : Heap} (hpl : plainName y.cls = true)
    (body : ∀ (p : Program) (e : Env) (s : State) (m : MethodId) (below : List Frame) (meth : Method) (c : Code) (s₁ : State), Stand p l e rm s m as below meth c s₁ [] 0 0 → p.tables.exec = Jvm.exec → c.code = bytes → c.maxLocals = maxL → s.vm.findClass y.cls = some m.cls → meth.name = y.name → meth.sig.returnType = ret → meth.locks = false → Z.Warmed39 s.vm → s₁.heap = h → End p e below s Q rm.cells rm.slots (s₁.setTop (entryFrame m as maxL))) :
    Con l Z y bytes maxL ret ws rm as h Q := by
  refine MetFree.of_bodySF (plainFor_of_name hpl) hisR ?_
  intro p e s m args below meth c s₁ Bd hml hP hK
  obtain ⟨rfl, hZ, hh⟩ := hP
  obtain ⟨s₂, o, h1, h2, h3, v, L, h4, h5, h6⟩ := body p e s m below meth c s₁ (Stand.of_body Bd) Bd.exec Bd.bytes hml (findClass_of_methodNamed Bd.named) (name_of_methodNamed Bd.named Bd.method).1 Bd.returns Bd.notSynchronized hZ (by rw [← hh, Bd.state]; rfl)
  exact ⟨s₂, o, h1, h2, h3, v, L, h4, h5, h6⟩
theorem Con.mono {Z : State} {y : MethodName} {bytes : ByteArray} {maxL : Nat} {ret : Option FieldType} {ws : List Cond} {rm : Room} {as : Array Value} {h : Heap} {Q' : Option Value → Heap → List Loc → Prop} (k : Con l Z y bytes maxL ret ws rm as h Q) (hQ : ∀ v hh L, Q v hh L → Q' v hh L) : Con l Z y bytes maxL ret ws rm as h Q' := by
  intro p e ha hc hk s m args below hf happ hP hK
  obtain ⟨n, o, h1, h2, h3, v, L, h4, h5, h6⟩ := k p e ha hc hk s m args below hf happ hP hK
  exact ⟨n, o, h1, h2, h3, v, L, h4, hQ _ _ _ h5, h6⟩
theorem k_iloadN (X : Stand p l e R s m args below meth c T locs cells slots) (hx : p.tables.exec = Jvm.exec) {j : Fin 4} {v : Int32} (hq : pc + 1 = q) (hd : decode c.code pc = .ok (.iload_n j, 1)) (hl : Ls[j.val]? = some (.val (.int v))) (k : EndG p e below Fe Q (T.setTop (mkF m q Ls (.int v :: rest)))) : EndG p e below Fe Q (T.setTop (mkF m pc Ls (rest))) := by
  subst hq; exact k.st fun t w => XS.iloadN X.here hx rfl hd hl w
theorem k_iload (X : Stand p l e R s m args below meth c T locs cells slots) (hx : p.tables.exec = Jvm.exec) {j : Nat} {v : Int32} (hq : pc + 2 = q) (hd : decode c.code pc = .ok (.iload j, 2)) (hl : Ls[j]? = some (.val (.int v))) (k : EndG p e below Fe Q (T.setTop (mkF m q Ls (.int v :: rest)))) : EndG p e below Fe Q (T.setTop (mkF m pc Ls (rest))) := by
  subst hq; exact k.st fun t w => XS.iload X.here hx rfl hd hl w
theorem k_istoreN (X : Stand p l e R s m args below meth c T locs cells slots) (hx : p.tables.exec = Jvm.exec) {j : Fin 4} {v : Int32} {L' : Array Slot} (hq : pc + 1 = q) (hd : decode c.code pc = .ok (.istore_n j, 1)) (hl : storeLocals Ls j.val (.int v) = some L') (k : EndG p e below Fe Q (T.setTop (mkF m q L' (rest)))) : EndG p e below Fe Q (T.setTop (mkF m pc Ls (.int v :: rest))) := by
  subst hq; exact k.st fun t w => XS.istoreN X.here hx rfl hd rfl hl w
theorem k_istore (X : Stand p l e R s m args below meth c T locs cells slots) (hx : p.tables.exec = Jvm.exec) {j : Nat} {v : Int32} {L' : Array Slot} (hq : pc + 2 = q) (hd : decode c.code pc = .ok (.istore j, 2)) (hl : storeLocals Ls j (.int v) = some L') (k : EndG p e below Fe Q (T.setTop (mkF m q L' (rest)))) : EndG p e below Fe Q (T.setTop (mkF m pc Ls (.int v :: rest))) := by
  subst hq; exact k.st fun t w => XS.istore X.here hx rfl hd rfl hl w
theorem k_iconst (X : Stand p l e R s m args below meth c T locs cells slots) (hx : p.tables.exec = Jvm.exec) {i : Int} {v : Int32} (hv : Int32.ofInt i = v) (hq : pc + 1 = q) (hd : decode c.code pc = .ok (.iconst i, 1)) (k : EndG p e below Fe Q (T.setTop (mkF m q Ls (.int v :: rest)))) : EndG p e below Fe Q (T.setTop (mkF m pc Ls (rest))) := by
  subst hq hv; exact k.st fun t w => XS.iconst X.here hx rfl hd w
theorem k_bipush (X : Stand p l e R s m args below meth c T locs cells slots) (hx : p.tables.exec = Jvm.exec) {i : Int} {v : Int32} (hv : (Int8.ofInt i).toInt32 = v) (hq : pc + 2 = q) (hd : decode c.code pc = .ok (.bipush i, 2)) (k : EndG p e below Fe Q (T.setTop (mkF m q Ls (.int v :: rest)))) : EndG p e below Fe Q (T.setTop (mkF m pc Ls (rest))) := by
  subst hq hv; exact k.st fun t w => XS.bipush X.here hx rfl hd w
theorem k_isub (X : Stand p l e R s m args below meth c T locs cells slots) (hx : p.tables.exec = Jvm.exec) {x y : Int32} (hq : pc + 1 = q) (hd : decode c.code pc = .ok (.isub, 1)) (k : EndG p e below Fe Q (T.setTop (mkF m q Ls (.int (x - y) :: rest)))) : EndG p e below Fe Q (T.setTop (mkF m pc Ls (.int y :: .int x :: rest))) := by
  subst hq; exact k.st fun t w => XS.isub X.here hx rfl hd rfl w
theorem k_iand (X : Stand p l e R s m args below meth c T locs cells slots) (hx : p.tables.exec = Jvm.exec) {x y : Int32} (hq : pc + 1 = q) (hd : decode c.code pc = .ok (.iand, 1)) (k : EndG p e below Fe Q (T.setTop (mkF m q Ls (.int (x &&& y) :: rest)))) : EndG p e below Fe Q (T.setTop (mkF m pc Ls (.int y :: .int x :: rest))) := by
  subst hq; exact k.st fun t w => XS.iand X.here hx rfl hd rfl w
theorem k_ishl (X : Stand p l e R s m args below meth c T locs cells slots) (hx : p.tables.exec = Jvm.exec) {x y : Int32} (hq : pc + 1 = q) (hd : decode c.code pc = .ok (.ishl, 1)) (k : EndG p e below Fe Q (T.setTop (mkF m q Ls (.int (x <<< (y &&& 31)) :: rest)))) : EndG p e below Fe Q (T.setTop (mkF m pc Ls (.int y :: .int x :: rest))) := by
  subst hq; exact k.st fun t w => XS.ishl X.here hx rfl hd rfl w
theorem k_iushr (X : Stand p l e R s m args below meth c T locs cells slots) (hx : p.tables.exec = Jvm.exec) {x y : Int32} (hq : pc + 1 = q) (hd : decode c.code pc = .ok (.iushr, 1)) (k : EndG p e below Fe Q (T.setTop (mkF m q Ls (.int ((x.toUInt32 >>> (y &&& 31).toUInt32).toInt32) :: rest)))) : EndG p e below Fe Q (T.setTop (mkF m pc Ls (.int y :: .int x :: rest))) := by
  subst hq; exact k.st fun t w => XS.iushr X.here hx rfl hd rfl w
theorem k_goto (X : Stand p l e R s m args below meth c T locs cells slots) (hx : p.tables.exec = Jvm.exec) {o : Int} (ho : 0 ≤ (pc : Int) + o) (hp : ((pc : Int) + o).toNat = q) (hd : decode c.code pc = .ok (.goto o, 3)) (k : EndG p e below Fe Q (T.setTop (mkF m q Ls (rest)))) : EndG p e below Fe Q (T.setTop (mkF m pc Ls (rest))) :=
  k.st fun t w => XS.goto X.here hx rfl (pc0 := pc) (pc' := q) rfl hd ho hp w
theorem k_icmp_eq (X : Stand p l e R s m args below meth c T locs cells slots) (hx : p.tables.exec = Jvm.exec) {x y : Int32} {o : Int} {q1 : Nat} (ho : 0 ≤ (pc : Int) + o) (hp : ((pc : Int) + o).toNat = q1) (hq : pc + 3 = q) (hd : decode c.code pc = .ok (.if_icmp .eq o, 3)) (kt : x = y → EndG p e below Fe Q (T.setTop (mkF m q1 Ls (rest)))) (kf : ¬ x = y → EndG p e below Fe Q (T.setTop (mkF m q Ls (rest)))) : EndG p e below Fe Q (T.setTop (mkF m pc Ls (.int y :: .int x :: rest))) := by
  by_cases h : x = y
  · exact (kt h).st fun t w => XS.icmpYes X.here hx rfl (pc0 := pc) (pc' := q1) rfl hd rfl (XT.ii_eq_t h) ho hp w
  · subst hq; exact (kf h).st fun t w => XS.icmpNo X.here hx rfl hd rfl (XT.ii_eq_f h) w
theorem k_if_eq (X : Stand p l e R s m args below meth c T locs cells slots) (hx : p.tables.exec = Jvm.exec) {x : Int32} {o : Int} {q1 : Nat} (ho : 0 ≤ (pc : Int) + o) (hp : ((pc : Int) + o).toNat = q1) (hq : pc + 3 = q) (hd : decode c.code pc = .ok (.ifCond .eq o, 3)) (kt : x = 0 → EndG p e below Fe Q (T.setTop (mkF m q1 Ls (rest)))) (kf : ¬ x = 0 → EndG p e below Fe Q (T.setTop (mkF m q Ls (rest)))) : EndG p e below Fe Q (T.setTop (mkF m pc Ls (.int x :: rest))) := by
  by_cases h : x = 0
  · exact (kt h).st fun t w => XS.ifYes X.here hx rfl (pc0 := pc) (pc' := q1) rfl hd rfl (XT.i0_eq_t h) ho hp w
  · subst hq; exact (kf h).st fun t w => XS.ifNo X.here hx rfl hd rfl (XT.i0_eq_f h) w
theorem k_icmp_ne (X : Stand p l e R s m args below meth c T locs cells slots) (hx : p.tables.exec = Jvm.exec) {x y : Int32} {o : Int} {q1 : Nat} (ho : 0 ≤ (pc : Int) + o) (hp : ((pc : Int) + o).toNat = q1) (hq : pc + 3 = q) (hd : decode c.code pc = .ok (.if_icmp .ne o, 3)) (kt : ¬ x = y → EndG p e below Fe Q (T.setTop (mkF m q1 Ls (rest)))) (kf : x = y → EndG p e below Fe Q (T.setTop (mkF m q Ls (rest)))) : EndG p e below Fe Q (T.setTop (mkF m pc Ls (.int y :: .int x :: rest))) := by
  by_cases h : x = y
  · subst hq; exact (kf h).st fun t w => XS.icmpNo X.here hx rfl hd rfl (XT.ii_ne_f h) w
  · exact (kt h).st fun t w => XS.icmpYes X.here hx rfl (pc0 := pc) (pc' := q1) rfl hd rfl (XT.ii_ne_t h) ho hp w
theorem k_if_ne (X : Stand p l e R s m args below meth c T locs cells slots) (hx : p.tables.exec = Jvm.exec) {x : Int32} {o : Int} {q1 : Nat} (ho : 0 ≤ (pc : Int) + o) (hp : ((pc : Int) + o).toNat = q1) (hq : pc + 3 = q) (hd : decode c.code pc = .ok (.ifCond .ne o, 3)) (kt : ¬ x = 0 → EndG p e below Fe Q (T.setTop (mkF m q1 Ls (rest)))) (kf : x = 0 → EndG p e below Fe Q (T.setTop (mkF m q Ls (rest)))) : EndG p e below Fe Q (T.setTop (mkF m pc Ls (.int x :: rest))) := by
  by_cases h : x = 0
  · subst hq; exact (kf h).st fun t w => XS.ifNo X.here hx rfl hd rfl (XT.i0_ne_f h) w
  · exact (kt h).st fun t w => XS.ifYes X.here hx rfl (pc0 := pc) (pc' := q1) rfl hd rfl (XT.i0_ne_t h) ho hp w
theorem k_icmp_lt (X : Stand p l e R s m args below meth c T locs cells slots) (hx : p.tables.exec = Jvm.exec) {x y : Int32} {o : Int} {q1 : Nat} (ho : 0 ≤ (pc : Int) + o) (hp : ((pc : Int) + o).toNat = q1) (hq : pc + 3 = q) (hd : decode c.code pc = .ok (.if_icmp .lt o, 3)) (kt : x < y → EndG p e below Fe Q (T.setTop (mkF m q1 Ls (rest)))) (kf : ¬ x < y → EndG p e below Fe Q (T.setTop (mkF m q Ls (rest)))) : EndG p e below Fe Q (T.setTop (mkF m pc Ls (.int y :: .int x :: rest))) := by
  by_cases h : x < y
  · exact (kt h).st fun t w => XS.icmpYes X.here hx rfl (pc0 := pc) (pc' := q1) rfl hd rfl (XT.ii_lt_t h) ho hp w
  · subst hq; exact (kf h).st fun t w => XS.icmpNo X.here hx rfl hd rfl (XT.ii_lt_f h) w
theorem k_icmp_gt (X : Stand p l e R s m args below meth c T locs cells slots) (hx : p.tables.exec = Jvm.exec) {x y : Int32} {o : Int} {q1 : Nat} (ho : 0 ≤ (pc : Int) + o) (hp : ((pc : Int) + o).toNat = q1) (hq : pc + 3 = q) (hd : decode c.code pc = .ok (.if_icmp .gt o, 3)) (kt : y < x → EndG p e below Fe Q (T.setTop (mkF m q1 Ls (rest)))) (kf : ¬ y < x → EndG p e below Fe Q (T.setTop (mkF m q Ls (rest)))) : EndG p e below Fe Q (T.setTop (mkF m pc Ls (.int y :: .int x :: rest))) := by
  by_cases h : y < x
  · exact (kt h).st fun t w => XS.icmpYes X.here hx rfl (pc0 := pc) (pc' := q1) rfl hd rfl (XT.ii_gt_t h) ho hp w
  · subst hq; exact (kf h).st fun t w => XS.icmpNo X.here hx rfl hd rfl (XT.ii_gt_f h) w
theorem k_if_le (X : Stand p l e R s m args below meth c T locs cells slots) (hx : p.tables.exec = Jvm.exec) {x : Int32} {o : Int} {q1 : Nat} (ho : 0 ≤ (pc : Int) + o) (hp : ((pc : Int) + o).toNat = q1) (hq : pc + 3 = q) (hd : decode c.code pc = .ok (.ifCond .le o, 3)) (kt : ¬ 0 < x → EndG p e below Fe Q (T.setTop (mkF m q1 Ls (rest)))) (kf : 0 < x → EndG p e below Fe Q (T.setTop (mkF m q Ls (rest)))) : EndG p e below Fe Q (T.setTop (mkF m pc Ls (.int x :: rest))) := by
  by_cases h : 0 < x
  · subst hq; exact (kf h).st fun t w => XS.ifNo X.here hx rfl hd rfl (XT.i0_le_f h) w
  · exact (kt h).st fun t w => XS.ifYes X.here hx rfl (pc0 := pc) (pc' := q1) rfl hd rfl (XT.i0_le_t h) ho hp w
theorem k_tsw_in (X : Stand p l e R s m args below meth c T locs cells slots) (hx : p.tables.exec = Jvm.exec) {dflt low high : Int} {offs : Array Int} {len : Nat} {o : Int} {i : Int32} (hd : decode c.code pc = .ok (.tableswitch dflt low high offs, len)) (hin : ¬ (i.toInt < low ∨ i.toInt > high)) (hoff : offs[(i.toInt - low).toNat]? = some o) (ho : 0 ≤ (pc : Int) + o) (hp : ((pc : Int) + o).toNat = q) (k : EndG p e below Fe Q (T.setTop (mkF m q Ls (rest)))) : EndG p e below Fe Q (T.setTop (mkF m pc Ls (.int i :: rest))) :=
  k.st fun t w => XS.tswIn X.here hx rfl (pc0 := pc) (pc' := q) rfl hd rfl hin hoff ho hp w
theorem k_tsw_out (X : Stand p l e R s m args below meth c T locs cells slots) (hx : p.tables.exec = Jvm.exec) {dflt low high : Int} {offs : Array Int} {len : Nat} {i : Int32} (hd : decode c.code pc = .ok (.tableswitch dflt low high offs, len)) (hout : i.toInt < low ∨ i.toInt > high) (ho : 0 ≤ (pc : Int) + dflt) (hp : ((pc : Int) + dflt).toNat = q) (k : EndG p e below Fe Q (T.setTop (mkF m q Ls (rest)))) : EndG p e below Fe Q (T.setTop (mkF m pc Ls (.int i :: rest))) :=
  k.st fun t w => XS.tswOut X.here hx rfl (pc0 := pc) (pc' := q) rfl hd rfl hout ho hp w
theorem k_retN (X : Stand p l e R s m args below meth c T locs cells slots) (hx : p.tables.exec = Jvm.exec) {z : Int32} {t : FieldType} (hlk : meth.locks = false) (hcl : cells ≤ cl) (hsl : slots ≤ sl) (hret : meth.sig.returnType = some t) (ht : t = .boolean ∨ t = .byte ∨ t = .char ∨ t = .short) (hd : decode c.code pc = .ok (.ireturn, 1)) (hQ : Q (some (.int (nar t z))) T.heap locs) : End p e below s Q cl sl (T.setTop (mkF m pc Ls (.int z :: rest))) := by
  obtain ⟨fs, hr, hrun, hended, hW, hsame⟩ := X.leave (v := (some (.int (nar t z)))) (fun h => by rw [hret] at h; cases h) hlk
  refine ⟨_, _, ?_, hrun, hended, _, _, rfl, hQ, ⟨_, rfl⟩, hW, hsame.mono hcl hsl⟩
  exact retN X hx hret ht hd hr
variable {Z : State} {a0 : Array Value} {h : Heap}
end Steps
/-- the array at a has n places; the place t holds v t -/
def Ary (Z : State) (h : Heap) (a : Addr) (ty : FieldType) (n : Nat) (v : Nat → Value) : Prop := ∃ c : Cell, Arr Z h a c ty ∧ c.slots.size = n ∧ n < 2 ^ 31 ∧ ∀ t, t < n → c.slots[t]? = some (v t)
/-- g, but x at i -/
def upd {α : Type} (g : Nat → α) (i : Nat) (x : α) : Nat → α := fun t => if t = i then x else g t
theorem upd_same {α : Type} (g : Nat → α) (i : Nat) (x : α) : upd g i x i = x := if_pos rfl
theorem upd_other {α : Type} (g : Nat → α) {i t : Nat} (x : α) (q : t ≠ i) : upd g i x t = g t := if_neg q
section Arys
variable {Z : State} {h h' : Heap} {a b : Addr} {ty : FieldType} {n : Nat} {v w : Nat → Value} {sl : Nat} {x : Value} {ws : List Addr}
theorem Ary.lt (F : Ary Z h a ty n v) : a < h.size := by obtain ⟨c, A, -⟩ := F; exact A.lt
theorem Ary.ext (F : Ary Z h a ty n v) (E : Ext h h') : Ary Z h' a ty n v := by obtain ⟨c, A, r⟩ := F; exact ⟨c, A.ext E, r⟩
theorem Ary.other (F : Ary Z h b ty n v) (W : Wr h h' a sl x) (q : b ≠ a) : Ary Z h' b ty n v := by obtain ⟨c, A, r⟩ := F; exact ⟨c, A.other W q, r⟩
theorem Ary.keep (F : Ary Z h a ty n v) (K : Keep h h' ws) (q : a ∉ ws) : Ary Z h' a ty n v := by obtain ⟨c, A, r⟩ := F; exact ⟨c, ⟨K.2.1 a c A.1 q, A.2⟩, r⟩
theorem Ary.same (F : Ary Z h a ty n v) (W : Wr h h' a sl x) : Ary Z h' a ty n (fun t => if t = sl then x else v t) := by
  obtain ⟨c, A, S, B, H⟩ := F
  refine ⟨_, A.same W, by rw [sz_set, S], B, fun t ht => ?_⟩
  by_cases q : t = sl
  · subst q; simp [Cell.setSlot, S, ht]
  · simp only [if_neg q, Cell.setSlot]; rw [Array.getElem?_setIfInBounds_ne (Ne.symm q)]; exact H t ht
theorem Ary.congr (F : Ary Z h a ty n v) (q : ∀ t, t < n → v t = w t) : Ary Z h a ty n w := by obtain ⟨c, A, S, B, H⟩ := F; exact ⟨c, A, S, B, fun t ht => by rw [H t ht, q t ht]⟩
theorem Ary.new {k : ClassId} {z : Int32} (A : Arr Z h a (newA k ty z) ty) (q : ¬ z < 0) (hn : z.toNatClampNeg = n) : Ary Z h a ty n (fun _ => defaultValue ty) := by
  subst hn; exact ⟨_, A, sz_new _ _ _, (back32 q).2, fun t ht => by simp [newA, ht]⟩
theorem Keep.of_ext (E : Ext h h') : Keep h h' [] := (Keep.refl h []).ext E
def Cls (h : Heap) (a : Addr) (k : ClassId) : Prop := ∃ c : Cell, h[a]? = some c ∧ c.cls = k
theorem Cls.lt {k : ClassId} (F : Cls h a k) : a < h.size := by obtain ⟨c, h1, -⟩ := F; exact (Array.getElem?_eq_some_iff.mp h1).1
theorem Cls.keep {k : ClassId} (F : Cls h a k) (K : Keep h h' ws) : Cls h' a k := by obtain ⟨c, h1, h2⟩ := F; obtain ⟨c', q1, q2, -⟩ := K.2.2 _ _ h1; exact ⟨c', q1, q2.trans h2⟩
theorem Sto.ofA {k : ClassId} {C : String} {y : Addr} (A : Ary Z h a ty n v) (q : Cls h a k) (O : Ovr Z k C) (I : Ins Z h y C true) : Sto Z h a (.ref y) := by
  obtain ⟨c, A, r⟩ := A; obtain ⟨c', q1, q2⟩ := q; cases A.1.symm.trans q1; exact Sto.of A (q2 ▸ O) I
end Arys
theorem acmp_eq_t {a b : Addr} (h : a = b) : XT.acmp .eq (.ref a) (.ref b) = true := by subst h; simp [XT.acmp]
theorem acmp_eq_f {a b : Addr} (h : ¬ a = b) : XT.acmp .eq (.ref a) (.ref b) = false := by simp [XT.acmp, h]
theorem acmp_ne_t {a b : Addr} (h : ¬ a = b) : XT.acmp .ne (.ref a) (.ref b) = true := by simp [XT.acmp, h]
theorem acmp_ne_f {a b : Addr} (h : a = b) : XT.acmp .ne (.ref a) (.ref b) = false := by subst h; simp [XT.acmp]
/-- j names the place i -/
def Ix (j : Int32) (i : Nat) : Prop := ¬ j < 0 ∧ j.toNatClampNeg = i
theorem Ix.in {j : Int32} {i n : Nat} {c : Cell} (q : Ix j i) (S : c.slots.size = n) (hi : i < n) : ¬ (j < 0 ∨ c.slots.size ≤ j.toNatClampNeg) := fun o => o.elim q.1 fun o => by rw [S, q.2] at o; omega
theorem Ix.of {j : Int32} {i : Nat} (q : j.toInt = i) : Ix j i := by
  have h0 : ¬ j < 0 := by rw [Int32.lt_iff_toInt_lt, show (0 : Int32).toInt = 0 from by decide]; omega
  refine ⟨h0, ?_⟩
  have := nat_of h0; omega
theorem Ix.int {j : Int32} {i : Nat} (q : Ix j i) : j.toInt = i := by have := nat_of q.1; rw [q.2] at this; exact this
section Steps
variable {p : Program} {l : Launch} {e : Env} {R : Room} {s : State} {m : MethodId} {args : Array Value} {below : List Frame} {meth : Method} {c : Code} {T : State} {locs : List Loc} {cells slots : Nat} {Fe : Outcome → State → List Loc → Prop} {Q : Option Value → Heap → List Loc → Prop} {cl sl : Nat} {pc q : Nat} {Ls : Array Slot} {rest : List Value}
variable {Z : State} {a0 : Array Value} {h : Heap}
theorem k_callS (X : Stand p l e R s m args below meth c T locs cells slots) (hx : p.tables.exec = Jvm.exec) (hZ : Z.Warmed39 s.vm) {own : String} {index : Nat} {y : MethodName} {bytes : ByteArray} {maxL : Nat} {ret : Option FieldType} {rm : Room} {as : List Value} {Qc : Option Value → Heap → List Loc → Prop} (hown : s.vm.findClass own = some m.cls) (w1 : (Cond.methodLink own index y).before a0 Z = true) (w2 : (Cond.static y).before a0 Z = true) (w3 : (Cond.initialized y.cls).before a0 Z = true) (w4 : (Cond.code y bytes maxL ret).before a0 Z = true) (hy : y.cls ≠ "java/lang/invoke/MethodHandle" ∧ y.cls ≠ "java/lang/invoke/VarHandle") (W : Nat) (eT : T.heap = h) (hM : Con l Z y bytes maxL ret [] rm (as).toArray h Qc) (hf : rm.frames + 1 ≤ R.frames) (hl : W + (maxL + 11) + rm.locals ≤ R.locals) (hcl : cells + rm.cells ≤ R.cells) (hsl : slots + rm.slots ≤ R.slots) (hls : Ls.size = c.maxLocals) {ps : List FieldType} {rt : Option FieldType} (hpd : parseMethodDescriptor y.desc = some ⟨ps, rt⟩) (hlen : as.length = ps.length) (hW : 2 * 0 + (rest.map fun v => v.category).sum ≤ W) (hq : pc + 3 = q) (hd : decode c.code pc = .ok (.invokestatic index, 3)) (k : ∀ v T' L, Stand p l e R s m args below meth c T' (locs ++ L) (cells + rm.cells) (slots + rm.slots) → Qc v T'.heap L → EndG p e below Fe Q (T'.setTop (mkF m q Ls (v.toList ++ rest)))) : EndG p e below Fe Q (T.setTop (mkF m pc Ls (as.reverse ++ rest))) := by
  subst hq
  obtain ⟨v, _, ⟨T', L', k', n'⟩, -, X', ⟨Lc, hQ, l', y', z'⟩, st⟩ := Jvm.LawKit.callS X hx (y := y) hown (mvT hZ w1) (mvT hZ w2) (mvT hZ w3) (mvT hZ w4) hy (backOf (W := W) hM hZ w4 w3 hf hl) (g := (mkF m pc Ls (as.reverse ++ rest))) rfl hls (argsL := as) (rest := rest) (lenOf hpd hlen) rfl hW hd (fun _ _ => ⟨rfl, eT, hcl, hsl⟩)
  dsimp only [Pt.U, Pt.locs, Pt.cells, Pt.slots] at X' l' y' z' st hQ
  subst l' y' z'
  exact (k v T' Lc X' hQ).st st
end Steps
end Jvm.OwnK
namespace Jvm.Pilot.@@N@@
open Jvm Jvm.ClassFile Sem Op Lib Jvm.Free Jvm.Stand Jvm.LawKit Jvm.RoadKit Jvm.OwnK Bundle Jvm.Pilot.@@N@@.Jvm.D
theorem pn_0 : plainName "com/example/rasterloom/rasterloom/PngSamplesIsValidDepthPinLaw" = true := by first | (simp [plainName, overriddenIn]; done) | decide +kernel
theorem pn_1 : plainName "com/example/rasterloom/rasterloom/PngSamples" = true := by first | (simp [plainName, overriddenIn]; done) | decide +kernel
theorem pd_0 : parseMethodDescriptor "(II)Z" = some ⟨[.int, .int], some .boolean⟩ := by decide +kernel
theorem d2_0 : decode method_2_code 0 = .ok (.iload_n 1, 1) := by decide +kernel
theorem d2_1 : decode method_2_code 1 = .ok (.ifCond .le 21, 3) := by decide +kernel
theorem d2_4 : decode method_2_code 4 = .ok (.iload_n 1, 1) := by decide +kernel
theorem d2_5 : decode method_2_code 5 = .ok (.bipush 16, 2) := by decide +kernel
theorem d2_7 : decode method_2_code 7 = .ok (.if_icmp .gt 15, 3) := by decide +kernel
theorem d2_10 : decode method_2_code 10 = .ok (.iload_n 1, 1) := by decide +kernel
theorem d2_11 : decode method_2_code 11 = .ok (.iload_n 1, 1) := by decide +kernel
theorem d2_12 : decode method_2_code 12 = .ok (.iconst 1, 1) := by decide +kernel
theorem d2_13 : decode method_2_code 13 = .ok (.isub, 1) := by decide +kernel
theorem d2_14 : decode method_2_code 14 = .ok (.iand, 1) := by decide +kernel
theorem d2_15 : decode method_2_code 15 = .ok (.ifCond .ne 7, 3) := by decide +kernel
theorem d2_18 : decode method_2_code 18 = .ok (.iconst 1, 1) := by decide +kernel
theorem d2_19 : decode method_2_code 19 = .ok (.goto 4, 3) := by decide +kernel
theorem d2_22 : decode method_2_code 22 = .ok (.iconst 0, 1) := by decide +kernel
theorem d2_23 : decode method_2_code 23 = .ok (.istore_n 2, 1) := by decide +kernel
theorem d2_24 : decode method_2_code 24 = .ok (.iload_n 2, 1) := by decide +kernel
theorem d2_25 : decode method_2_code 25 = .ok (.ifCond .ne 5, 3) := by decide +kernel
theorem d2_28 : decode method_2_code 28 = .ok (.iconst 0, 1) := by decide +kernel
theorem d2_29 : decode method_2_code 29 = .ok (.ireturn, 1) := by decide +kernel
theorem d2_30 : decode method_2_code 30 = .ok (.iload_n 0, 1) := by decide +kernel
theorem d2_31 : decode method_2_code 31 = .ok (.ifCond .ne 5, 3) := by decide +kernel
theorem d2_34 : decode method_2_code 34 = .ok (.iconst 1, 1) := by decide +kernel
theorem d2_35 : decode method_2_code 35 = .ok (.ireturn, 1) := by decide +kernel
theorem d2_36 : decode method_2_code 36 = .ok (.iload_n 0, 1) := by decide +kernel
theorem d2_37 : decode method_2_code 37 = .ok (.iconst 3, 1) := by decide +kernel
theorem d2_38 : decode method_2_code 38 = .ok (.if_icmp .ne 15, 3) := by decide +kernel
theorem d2_41 : decode method_2_code 41 = .ok (.iload_n 1, 1) := by decide +kernel
theorem d2_42 : decode method_2_code 42 = .ok (.bipush 8, 2) := by decide +kernel
theorem d2_44 : decode method_2_code 44 = .ok (.if_icmp .gt 7, 3) := by decide +kernel
theorem d2_47 : decode method_2_code 47 = .ok (.iconst 1, 1) := by decide +kernel
theorem d2_48 : decode method_2_code 48 = .ok (.goto 4, 3) := by decide +kernel
theorem d2_51 : decode method_2_code 51 = .ok (.iconst 0, 1) := by decide +kernel
theorem d2_52 : decode method_2_code 52 = .ok (.ireturn, 1) := by decide +kernel
theorem d2_53 : decode method_2_code 53 = .ok (.iload_n 0, 1) := by decide +kernel
theorem d2_54 : decode method_2_code 54 = .ok (.iconst 2, 1) := by decide +kernel
theorem d2_55 : decode method_2_code 55 = .ok (.if_icmp .eq 14, 3) := by decide +kernel
theorem d2_58 : decode method_2_code 58 = .ok (.iload_n 0, 1) := by decide +kernel
theorem d2_59 : decode method_2_code 59 = .ok (.iconst 4, 1) := by decide +kernel
theorem d2_60 : decode method_2_code 60 = .ok (.if_icmp .eq 9, 3) := by decide +kernel
theorem d2_63 : decode method_2_code 63 = .ok (.iload_n 0, 1) := by decide +kernel
theorem d2_64 : decode method_2_code 64 = .ok (.bipush 6, 2) := by decide +kernel
theorem d2_66 : decode method_2_code 66 = .ok (.if_icmp .ne 15, 3) := by decide +kernel
theorem d2_69 : decode method_2_code 69 = .ok (.iload_n 1, 1) := by decide +kernel
theorem d2_70 : decode method_2_code 70 = .ok (.bipush 8, 2) := by decide +kernel
theorem d2_72 : decode method_2_code 72 = .ok (.if_icmp .lt 7, 3) := by decide +kernel
theorem d2_75 : decode method_2_code 75 = .ok (.iconst 1, 1) := by decide +kernel
theorem d2_76 : decode method_2_code 76 = .ok (.goto 4, 3) := by decide +kernel
theorem d2_79 : decode method_2_code 79 = .ok (.iconst 0, 1) := by decide +kernel
theorem d2_80 : decode method_2_code 80 = .ok (.ireturn, 1) := by decide +kernel
theorem d2_81 : decode method_2_code 81 = .ok (.iconst 0, 1) := by decide +kernel
theorem d2_82 : decode method_2_code 82 = .ok (.ireturn, 1) := by decide +kernel
theorem ef_2 (m : MethodId) (x0 : Int32) (x1 : Int32) : entryFrame m #[(.int x0), (.int x1)] 3 = mkF m 0 #[.val (.int x0), .val (.int x1), .unset] [] := by first | (simp [entryFrame, mkF, argsToLocals, Value.category]; done) | rfl
def f2_69 (y0 : Int32) (y1 : Int32) (y2 : Int32) : Int32 := (if y1 < (8 : Int32) then (0 : Int32) else (1 : Int32))
def f2_23 (y0 : Int32) (y1 : Int32) (z0 : Int32) : Int32 := (if z0 = (0 : Int32) then (0 : Int32) else (if y0 = (0 : Int32) then (1 : Int32) else (if y0 = (3 : Int32) then (if (8 : Int32) < y1 then (0 : Int32) else (1 : Int32)) else (if y0 = (2 : Int32) then (f2_69 y0 y1 z0) else (if y0 = (4 : Int32) then (f2_69 y0 y1 z0) else (if y0 = (6 : Int32) then (f2_69 y0 y1 z0) else (0 : Int32)))))))
def f2_22 (y0 : Int32) (y1 : Int32) : Int32 := (f2_23 y0 y1 (0 : Int32))
def f2 (x0 : Int32) (x1 : Int32) : Int32 := (if (0 : Int32) < x1 then (if (16 : Int32) < x1 then (f2_22 x0 x1) else (if (x1 &&& (x1 - (1 : Int32))) = (0 : Int32) then (f2_23 x0 x1 (1 : Int32)) else (f2_22 x0 x1))) else (f2_22 x0 x1))
set_option maxRecDepth 65536 in
set_option maxHeartbeats 40000000 in
theorem rm2 (l : Launch) (Z : State) (a0 : Array Value) (hw : ∀ d ∈ tables_1, d.before a0 Z = true) (x0 : Int32) (x1 : Int32) (h0 : Heap) (n0 : Nat) :
    Con l Z (⟨"com/example/rasterloom/rasterloom/PngSamplesIsValidDepthPinLaw", "expected", "(II)Z"⟩ : MethodName) method_2_code 3 (some .boolean) [] ({ frames := 0, cells := 0, slots := 0, locals := 0 } : Room) #[(.int x0), (.int x1)] h0 (fun v h L => v = some (.int (f2 x0 x1)) ∧ Fr n0 L ∧ h = h0) := by
  refine Con.of pn_0 ?_
  intro p e s m below meth c s₁ X0 hx hby hml hown hnm hret hlk hZ e0
  refine End.cast ?_ (ef_2 m x0 x1)
  have N0 := Fr.nil n0
  have K69 : ∀ (y0 : Int32) (y1 : Int32) (y2 : Int32), f2 x0 x1 = f2_69 y0 y1 y2 → End p e below s (fun v h L => v = some (.int (f2 x0 x1)) ∧ Fr n0 L ∧ h = h0) 0 0 (s₁.setTop (mkF m 69 #[.val (.int y0), .val (.int y1), .val (.int y2)] [])) := by
    intro y0 y1 y2 hf
    refine k_iloadN X0 hx (q := 70) rfl (hb hby d2_69) rfl ?_
    refine k_bipush X0 hx (v := (8 : Int32)) rfl (q := 72) rfl (hb hby d2_70) ?_
    refine k_icmp_lt X0 hx (q1 := 79) (q := 75) (by decide) (by decide) rfl (hb hby d2_72) (fun hc1 => ?_) (fun hc1 => ?_)
    · refine k_iconst X0 hx (v := (0 : Int32)) rfl (q := 80) rfl (hb hby d2_79) ?_
      exact k_retN X0 hx (t := .boolean) hlk (by decide) (by decide) hret (by simp) (hb hby d2_80) ⟨retI_eq (hf.trans (if_pos hc1)), N0, e0⟩
    · refine k_iconst X0 hx (v := (1 : Int32)) rfl (q := 76) rfl (hb hby d2_75) ?_
      refine k_goto X0 hx (q := 80) (by decide) (by decide) (hb hby d2_76) ?_
      exact k_retN X0 hx (t := .boolean) hlk (by decide) (by decide) hret (by simp) (hb hby d2_80) ⟨retI_eq (hf.trans (if_neg hc1)), N0, e0⟩
  have K23 : ∀ (y0 : Int32) (y1 : Int32) (z0 : Int32), f2 x0 x1 = f2_23 y0 y1 z0 → End p e below s (fun v h L => v = some (.int (f2 x0 x1)) ∧ Fr n0 L ∧ h = h0) 0 0 (s₁.setTop (mkF m 23 #[.val (.int y0), .val (.int y1), .unset] [(.int z0)])) := by
    intro y0 y1 z0 hf
    refine k_istoreN X0 hx (L' := #[.val (.int y0), .val (.int y1), .val (.int z0)]) (q := 24) rfl (hb hby d2_23) rfl ?_
    refine k_iloadN X0 hx (q := 25) rfl (hb hby d2_24) rfl ?_
    refine k_if_ne X0 hx (q1 := 30) (q := 28) (by decide) (by decide) rfl (hb hby d2_25) (fun hc2 => ?_) (fun hc2 => ?_)
    · refine k_iloadN X0 hx (q := 31) rfl (hb hby d2_30) rfl ?_
      refine k_if_ne X0 hx (q1 := 36) (q := 34) (by decide) (by decide) rfl (hb hby d2_31) (fun hc3 => ?_) (fun hc3 => ?_)
      · refine k_iloadN X0 hx (q := 37) rfl (hb hby d2_36) rfl ?_
        refine k_iconst X0 hx (v := (3 : Int32)) rfl (q := 38) rfl (hb hby d2_37) ?_
        refine k_icmp_ne X0 hx (q1 := 53) (q := 41) (by decide) (by decide) rfl (hb hby d2_38) (fun hc4 => ?_) (fun hc4 => ?_)
        · refine k_iloadN X0 hx (q := 54) rfl (hb hby d2_53) rfl ?_
          refine k_iconst X0 hx (v := (2 : Int32)) rfl (q := 55) rfl (hb hby d2_54) ?_
          refine k_icmp_eq X0 hx (q1 := 69) (q := 58) (by decide) (by decide) rfl (hb hby d2_55) (fun hc5 => ?_) (fun hc5 => ?_)
          · exact K69 y0 y1 z0 ((((hf.trans (if_neg hc2)).trans (if_neg hc3)).trans (if_neg hc4)).trans (if_pos hc5))
          · refine k_iloadN X0 hx (q := 59) rfl (hb hby d2_58) rfl ?_
            refine k_iconst X0 hx (v := (4 : Int32)) rfl (q := 60) rfl (hb hby d2_59) ?_
            refine k_icmp_eq X0 hx (q1 := 69) (q := 63) (by decide) (by decide) rfl (hb hby d2_60) (fun hc6 => ?_) (fun hc6 => ?_)
            · exact K69 y0 y1 z0 (((((hf.trans (if_neg hc2)).trans (if_neg hc3)).trans (if_neg hc4)).trans (if_neg hc5)).trans (if_pos hc6))
            · refine k_iloadN X0 hx (q := 64) rfl (hb hby d2_63) rfl ?_
              refine k_bipush X0 hx (v := (6 : Int32)) rfl (q := 66) rfl (hb hby d2_64) ?_
              refine k_icmp_ne X0 hx (q1 := 81) (q := 69) (by decide) (by decide) rfl (hb hby d2_66) (fun hc7 => ?_) (fun hc7 => ?_)
              · refine k_iconst X0 hx (v := (0 : Int32)) rfl (q := 82) rfl (hb hby d2_81) ?_
                exact k_retN X0 hx (t := .boolean) hlk (by decide) (by decide) hret (by simp) (hb hby d2_82) ⟨retI_eq ((((((hf.trans (if_neg hc2)).trans (if_neg hc3)).trans (if_neg hc4)).trans (if_neg hc5)).trans (if_neg hc6)).trans (if_neg hc7)), N0, e0⟩
              · exact K69 y0 y1 z0 ((((((hf.trans (if_neg hc2)).trans (if_neg hc3)).trans (if_neg hc4)).trans (if_neg hc5)).trans (if_neg hc6)).trans (if_pos hc7))
        · refine k_iloadN X0 hx (q := 42) rfl (hb hby d2_41) rfl ?_
          refine k_bipush X0 hx (v := (8 : Int32)) rfl (q := 44) rfl (hb hby d2_42) ?_
          refine k_icmp_gt X0 hx (q1 := 51) (q := 47) (by decide) (by decide) rfl (hb hby d2_44) (fun hc8 => ?_) (fun hc8 => ?_)
          · refine k_iconst X0 hx (v := (0 : Int32)) rfl (q := 52) rfl (hb hby d2_51) ?_
            exact k_retN X0 hx (t := .boolean) hlk (by decide) (by decide) hret (by simp) (hb hby d2_52) ⟨retI_eq ((((hf.trans (if_neg hc2)).trans (if_neg hc3)).trans (if_pos hc4)).trans (if_pos hc8)), N0, e0⟩
          · refine k_iconst X0 hx (v := (1 : Int32)) rfl (q := 48) rfl (hb hby d2_47) ?_
            refine k_goto X0 hx (q := 52) (by decide) (by decide) (hb hby d2_48) ?_
            exact k_retN X0 hx (t := .boolean) hlk (by decide) (by decide) hret (by simp) (hb hby d2_52) ⟨retI_eq ((((hf.trans (if_neg hc2)).trans (if_neg hc3)).trans (if_pos hc4)).trans (if_neg hc8)), N0, e0⟩
      · refine k_iconst X0 hx (v := (1 : Int32)) rfl (q := 35) rfl (hb hby d2_34) ?_
        exact k_retN X0 hx (t := .boolean) hlk (by decide) (by decide) hret (by simp) (hb hby d2_35) ⟨retI_eq ((hf.trans (if_neg hc2)).trans (if_pos hc3)), N0, e0⟩
    · refine k_iconst X0 hx (v := (0 : Int32)) rfl (q := 29) rfl (hb hby d2_28) ?_
      exact k_retN X0 hx (t := .boolean) hlk (by decide) (by decide) hret (by simp) (hb hby d2_29) ⟨retI_eq (hf.trans (if_pos hc2)), N0, e0⟩
  have K22 : ∀ (y0 : Int32) (y1 : Int32), f2 x0 x1 = f2_22 y0 y1 → End p e below s (fun v h L => v = some (.int (f2 x0 x1)) ∧ Fr n0 L ∧ h = h0) 0 0 (s₁.setTop (mkF m 22 #[.val (.int y0), .val (.int y1), .unset] [])) := by
    intro y0 y1 hf
    refine k_iconst X0 hx (v := (0 : Int32)) rfl (q := 23) rfl (hb hby d2_22) ?_
    exact K23 y0 y1 (0 : Int32) hf
  refine k_iloadN X0 hx (q := 1) rfl (hb hby d2_0) rfl ?_
  refine k_if_le X0 hx (q1 := 22) (q := 4) (by decide) (by decide) rfl (hb hby d2_1) (fun hc9 => ?_) (fun hc9 => ?_)
  · exact K22 x0 x1 ((rfl : f2 x0 x1 = _).trans (if_neg hc9))
  · refine k_iloadN X0 hx (q := 5) rfl (hb hby d2_4) rfl ?_
    refine k_bipush X0 hx (v := (16 : Int32)) rfl (q := 7) rfl (hb hby d2_5) ?_
    refine k_icmp_gt X0 hx (q1 := 22) (q := 10) (by decide) (by decide) rfl (hb hby d2_7) (fun hc10 => ?_) (fun hc10 => ?_)
    · exact K22 x0 x1 (((rfl : f2 x0 x1 = _).trans (if_pos hc9)).trans (if_pos hc10))
    · refine k_iloadN X0 hx (q := 11) rfl (hb hby d2_10) rfl ?_
      refine k_iloadN X0 hx (q := 12) rfl (hb hby d2_11) rfl ?_
      refine k_iconst X0 hx (v := (1 : Int32)) rfl (q := 13) rfl (hb hby d2_12) ?_
      refine k_isub X0 hx (q := 14) rfl (hb hby d2_13) ?_
      refine k_iand X0 hx (q := 15) rfl (hb hby d2_14) ?_
      refine k_if_ne X0 hx (q1 := 22) (q := 18) (by decide) (by decide) rfl (hb hby d2_15) (fun hc11 => ?_) (fun hc11 => ?_)
      · exact K22 x0 x1 ((((rfl : f2 x0 x1 = _).trans (if_pos hc9)).trans (if_neg hc10)).trans (if_neg hc11))
      · refine k_iconst X0 hx (v := (1 : Int32)) rfl (q := 19) rfl (hb hby d2_18) ?_
        refine k_goto X0 hx (q := 23) (by decide) (by decide) (hb hby d2_19) ?_
        exact K23 x0 x1 (1 : Int32) ((((rfl : f2 x0 x1 = _).trans (if_pos hc9)).trans (if_neg hc10)).trans (if_pos hc11))
theorem d1_0 : decode prog_37_method_2_code 0 = .ok (.iload_n 0, 1) := by decide +kernel
theorem d1_1 : decode prog_37_method_2_code 1 = .ok (.tableswitch 121 0 6 #[43, 121, 103, 76, 103, 121, 103], 43) := by decide +kernel
theorem d1_44 : decode prog_37_method_2_code 44 = .ok (.iload_n 1, 1) := by decide +kernel
theorem d1_45 : decode prog_37_method_2_code 45 = .ok (.iconst 1, 1) := by decide +kernel
theorem d1_46 : decode prog_37_method_2_code 46 = .ok (.if_icmp .eq 25, 3) := by decide +kernel
theorem d1_49 : decode prog_37_method_2_code 49 = .ok (.iload_n 1, 1) := by decide +kernel
theorem d1_50 : decode prog_37_method_2_code 50 = .ok (.iconst 2, 1) := by decide +kernel
theorem d1_51 : decode prog_37_method_2_code 51 = .ok (.if_icmp .eq 20, 3) := by decide +kernel
theorem d1_54 : decode prog_37_method_2_code 54 = .ok (.iload_n 1, 1) := by decide +kernel
theorem d1_55 : decode prog_37_method_2_code 55 = .ok (.iconst 4, 1) := by decide +kernel
theorem d1_56 : decode prog_37_method_2_code 56 = .ok (.if_icmp .eq 15, 3) := by decide +kernel
theorem d1_59 : decode prog_37_method_2_code 59 = .ok (.iload_n 1, 1) := by decide +kernel
theorem d1_60 : decode prog_37_method_2_code 60 = .ok (.bipush 8, 2) := by decide +kernel
theorem d1_62 : decode prog_37_method_2_code 62 = .ok (.if_icmp .eq 9, 3) := by decide +kernel
theorem d1_65 : decode prog_37_method_2_code 65 = .ok (.iload_n 1, 1) := by decide +kernel
theorem d1_66 : decode prog_37_method_2_code 66 = .ok (.bipush 16, 2) := by decide +kernel
theorem d1_68 : decode prog_37_method_2_code 68 = .ok (.if_icmp .ne 7, 3) := by decide +kernel
theorem d1_71 : decode prog_37_method_2_code 71 = .ok (.iconst 1, 1) := by decide +kernel
theorem d1_72 : decode prog_37_method_2_code 72 = .ok (.goto 4, 3) := by decide +kernel
theorem d1_75 : decode prog_37_method_2_code 75 = .ok (.iconst 0, 1) := by decide +kernel
theorem d1_76 : decode prog_37_method_2_code 76 = .ok (.ireturn, 1) := by decide +kernel
theorem d1_77 : decode prog_37_method_2_code 77 = .ok (.iload_n 1, 1) := by decide +kernel
theorem d1_78 : decode prog_37_method_2_code 78 = .ok (.iconst 1, 1) := by decide +kernel
theorem d1_79 : decode prog_37_method_2_code 79 = .ok (.if_icmp .eq 19, 3) := by decide +kernel
theorem d1_82 : decode prog_37_method_2_code 82 = .ok (.iload_n 1, 1) := by decide +kernel
theorem d1_83 : decode prog_37_method_2_code 83 = .ok (.iconst 2, 1) := by decide +kernel
theorem d1_84 : decode prog_37_method_2_code 84 = .ok (.if_icmp .eq 14, 3) := by decide +kernel
theorem d1_87 : decode prog_37_method_2_code 87 = .ok (.iload_n 1, 1) := by decide +kernel
theorem d1_88 : decode prog_37_method_2_code 88 = .ok (.iconst 4, 1) := by decide +kernel
theorem d1_89 : decode prog_37_method_2_code 89 = .ok (.if_icmp .eq 9, 3) := by decide +kernel
theorem d1_92 : decode prog_37_method_2_code 92 = .ok (.iload_n 1, 1) := by decide +kernel
theorem d1_93 : decode prog_37_method_2_code 93 = .ok (.bipush 8, 2) := by decide +kernel
theorem d1_95 : decode prog_37_method_2_code 95 = .ok (.if_icmp .ne 7, 3) := by decide +kernel
theorem d1_98 : decode prog_37_method_2_code 98 = .ok (.iconst 1, 1) := by decide +kernel
theorem d1_99 : decode prog_37_method_2_code 99 = .ok (.goto 4, 3) := by decide +kernel
theorem d1_102 : decode prog_37_method_2_code 102 = .ok (.iconst 0, 1) := by decide +kernel
theorem d1_103 : decode prog_37_method_2_code 103 = .ok (.ireturn, 1) := by decide +kernel
theorem d1_104 : decode prog_37_method_2_code 104 = .ok (.iload_n 1, 1) := by decide +kernel
theorem d1_105 : decode prog_37_method_2_code 105 = .ok (.bipush 8, 2) := by decide +kernel
theorem d1_107 : decode prog_37_method_2_code 107 = .ok (.if_icmp .eq 9, 3) := by decide +kernel
theorem d1_110 : decode prog_37_method_2_code 110 = .ok (.iload_n 1, 1) := by decide +kernel
theorem d1_111 : decode prog_37_method_2_code 111 = .ok (.bipush 16, 2) := by decide +kernel
theorem d1_113 : decode prog_37_method_2_code 113 = .ok (.if_icmp .ne 7, 3) := by decide +kernel
theorem d1_116 : decode prog_37_method_2_code 116 = .ok (.iconst 1, 1) := by decide +kernel
theorem d1_117 : decode prog_37_method_2_code 117 = .ok (.goto 4, 3) := by decide +kernel
theorem d1_120 : decode prog_37_method_2_code 120 = .ok (.iconst 0, 1) := by decide +kernel
theorem d1_121 : decode prog_37_method_2_code 121 = .ok (.ireturn, 1) := by decide +kernel
theorem d1_122 : decode prog_37_method_2_code 122 = .ok (.iconst 0, 1) := by decide +kernel
theorem d1_123 : decode prog_37_method_2_code 123 = .ok (.ireturn, 1) := by decide +kernel
theorem ef_1 (m : MethodId) (x0 : Int32) (x1 : Int32) : entryFrame m #[(.int x0), (.int x1)] 2 = mkF m 0 #[.val (.int x0), .val (.int x1)] [] := by first | (simp [entryFrame, mkF, argsToLocals, Value.category]; done) | rfl
def f1 (x0 : Int32) (x1 : Int32) : Int32 := (if x0 = (0 : Int32) then (if x1 = (1 : Int32) then (1 : Int32) else (if x1 = (2 : Int32) then (1 : Int32) else (if x1 = (4 : Int32) then (1 : Int32) else (if x1 = (8 : Int32) then (1 : Int32) else (if x1 = (16 : Int32) then (1 : Int32) else (0 : Int32)))))) else (if x0 = (1 : Int32) then (0 : Int32) else (if x0 = (2 : Int32) then (if x1 = (8 : Int32) then (1 : Int32) else (if x1 = (16 : Int32) then (1 : Int32) else (0 : Int32))) else (if x0 = (3 : Int32) then (if x1 = (1 : Int32) then (1 : Int32) else (if x1 = (2 : Int32) then (1 : Int32) else (if x1 = (4 : Int32) then (1 : Int32) else (if x1 = (8 : Int32) then (1 : Int32) else (0 : Int32))))) else (if x0 = (4 : Int32) then (if x1 = (8 : Int32) then (1 : Int32) else (if x1 = (16 : Int32) then (1 : Int32) else (0 : Int32))) else (if x0 = (5 : Int32) then (0 : Int32) else (if x0 = (6 : Int32) then (if x1 = (8 : Int32) then (1 : Int32) else (if x1 = (16 : Int32) then (1 : Int32) else (0 : Int32))) else (0 : Int32))))))))
theorem own_sw1 (v : Int32) (h0 : ¬ v = (0 : Int32)) (h1 : ¬ v = (1 : Int32)) (h2 : ¬ v = (2 : Int32)) (h3 : ¬ v = (3 : Int32)) (h4 : ¬ v = (4 : Int32)) (h5 : ¬ v = (5 : Int32)) (h6 : ¬ v = (6 : Int32)) : v.toInt < 0 ∨ v.toInt > 6 := by
  simp only [← Int32.toInt_inj] at *
  have := v.le_toInt; have := v.toInt_lt
  have e : ∀ k : Int, -2147483648 ≤ k → k < 2147483648 → (Int32.ofInt k).toInt = k := fun k h1 h2 => Int32.toInt_ofInt_of_le h1 h2
  have e0 : ((0 : Int32)).toInt = 0 := by decide
  have e1 : ((1 : Int32)).toInt = 1 := by decide
  have e2 : ((2 : Int32)).toInt = 2 := by decide
  have e3 : ((3 : Int32)).toInt = 3 := by decide
  have e4 : ((4 : Int32)).toInt = 4 := by decide
  have e5 : ((5 : Int32)).toInt = 5 := by decide
  have e6 : ((6 : Int32)).toInt = 6 := by decide
  omega
set_option maxRecDepth 65536 in
set_option maxHeartbeats 40000000 in
theorem rm1 (l : Launch) (Z : State) (a0 : Array Value) (hw : ∀ d ∈ tables_1, d.before a0 Z = true) (x0 : Int32) (x1 : Int32) (h0 : Heap) (n0 : Nat) :
    Con l Z (⟨"com/example/rasterloom/rasterloom/PngSamples", "isValidDepth", "(II)Z"⟩ : MethodName) prog_37_method_2_code 2 (some .boolean) [] ({ frames := 0, cells := 0, slots := 0, locals := 0 } : Room) #[(.int x0), (.int x1)] h0 (fun v h L => v = some (.int (f1 x0 x1)) ∧ Fr n0 L ∧ h = h0) := by
  refine Con.of pn_1 ?_
  intro p e s m below meth c s₁ X0 hx hby hml hown hnm hret hlk hZ e0
  refine End.cast ?_ (ef_1 m x0 x1)
  have N0 := Fr.nil n0
  refine k_iloadN X0 hx (q := 1) rfl (hb hby d1_0) rfl ?_
  by_cases hs1 : x0 = (0 : Int32)
  · refine k_tsw_in X0 hx (q := 44) (hb hby d1_1) (by rw [hs1]; decide) (o := 43) (by rw [hs1]; rfl) (by decide) (by decide) ?_
    refine k_iloadN X0 hx (q := 45) rfl (hb hby d1_44) rfl ?_
    refine k_iconst X0 hx (v := (1 : Int32)) rfl (q := 46) rfl (hb hby d1_45) ?_
    refine k_icmp_eq X0 hx (q1 := 71) (q := 49) (by decide) (by decide) rfl (hb hby d1_46) (fun hc2 => ?_) (fun hc2 => ?_)
    · refine k_iconst X0 hx (v := (1 : Int32)) rfl (q := 72) rfl (hb hby d1_71) ?_
      refine k_goto X0 hx (q := 76) (by decide) (by decide) (hb hby d1_72) ?_
      exact k_retN X0 hx (t := .boolean) hlk (by decide) (by decide) hret (by simp) (hb hby d1_76) ⟨retI_eq (((rfl : f1 x0 x1 = _).trans (if_pos hs1)).trans (if_pos hc2)), N0, e0⟩
    · refine k_iloadN X0 hx (q := 50) rfl (hb hby d1_49) rfl ?_
      refine k_iconst X0 hx (v := (2 : Int32)) rfl (q := 51) rfl (hb hby d1_50) ?_
      refine k_icmp_eq X0 hx (q1 := 71) (q := 54) (by decide) (by decide) rfl (hb hby d1_51) (fun hc3 => ?_) (fun hc3 => ?_)
      · refine k_iconst X0 hx (v := (1 : Int32)) rfl (q := 72) rfl (hb hby d1_71) ?_
        refine k_goto X0 hx (q := 76) (by decide) (by decide) (hb hby d1_72) ?_
        exact k_retN X0 hx (t := .boolean) hlk (by decide) (by decide) hret (by simp) (hb hby d1_76) ⟨retI_eq ((((rfl : f1 x0 x1 = _).trans (if_pos hs1)).trans (if_neg hc2)).trans (if_pos hc3)), N0, e0⟩
      · refine k_iloadN X0 hx (q := 55) rfl (hb hby d1_54) rfl ?_
        refine k_iconst X0 hx (v := (4 : Int32)) rfl (q := 56) rfl (hb hby d1_55) ?_
        refine k_icmp_eq X0 hx (q1 := 71) (q := 59) (by decide) (by decide) rfl (hb hby d1_56) (fun hc4 => ?_) (fun hc4 => ?_)
        · refine k_iconst X0 hx (v := (1 : Int32)) rfl (q := 72) rfl (hb hby d1_71) ?_
          refine k_goto X0 hx (q := 76) (by decide) (by decide) (hb hby d1_72) ?_
          exact k_retN X0 hx (t := .boolean) hlk (by decide) (by decide) hret (by simp) (hb hby d1_76) ⟨retI_eq (((((rfl : f1 x0 x1 = _).trans (if_pos hs1)).trans (if_neg hc2)).trans (if_neg hc3)).trans (if_pos hc4)), N0, e0⟩
        · refine k_iloadN X0 hx (q := 60) rfl (hb hby d1_59) rfl ?_
          refine k_bipush X0 hx (v := (8 : Int32)) rfl (q := 62) rfl (hb hby d1_60) ?_
          refine k_icmp_eq X0 hx (q1 := 71) (q := 65) (by decide) (by decide) rfl (hb hby d1_62) (fun hc5 => ?_) (fun hc5 => ?_)
          · refine k_iconst X0 hx (v := (1 : Int32)) rfl (q := 72) rfl (hb hby d1_71) ?_
            refine k_goto X0 hx (q := 76) (by decide) (by decide) (hb hby d1_72) ?_
            exact k_retN X0 hx (t := .boolean) hlk (by decide) (by decide) hret (by simp) (hb hby d1_76) ⟨retI_eq ((((((rfl : f1 x0 x1 = _).trans (if_pos hs1)).trans (if_neg hc2)).trans (if_neg hc3)).trans (if_neg hc4)).trans (if_pos hc5)), N0, e0⟩
          · refine k_iloadN X0 hx (q := 66) rfl (hb hby d1_65) rfl ?_
            refine k_bipush X0 hx (v := (16 : Int32)) rfl (q := 68) rfl (hb hby d1_66) ?_
            refine k_icmp_ne X0 hx (q1 := 75) (q := 71) (by decide) (by decide) rfl (hb hby d1_68) (fun hc6 => ?_) (fun hc6 => ?_)
            · refine k_iconst X0 hx (v := (0 : Int32)) rfl (q := 76) rfl (hb hby d1_75) ?_
              exact k_retN X0 hx (t := .boolean) hlk (by decide) (by decide) hret (by simp) (hb hby d1_76) ⟨retI_eq (((((((rfl : f1 x0 x1 = _).trans (if_pos hs1)).trans (if_neg hc2)).trans (if_neg hc3)).trans (if_neg hc4)).trans (if_neg hc5)).trans (if_neg hc6)), N0, e0⟩
            · refine k_iconst X0 hx (v := (1 : Int32)) rfl (q := 72) rfl (hb hby d1_71) ?_
              refine k_goto X0 hx (q := 76) (by decide) (by decide) (hb hby d1_72) ?_
              exact k_retN X0 hx (t := .boolean) hlk (by decide) (by decide) hret (by simp) (hb hby d1_76) ⟨retI_eq (((((((rfl : f1 x0 x1 = _).trans (if_pos hs1)).trans (if_neg hc2)).trans (if_neg hc3)).trans (if_neg hc4)).trans (if_neg hc5)).trans (if_pos hc6)), N0, e0⟩
  · by_cases hs7 : x0 = (1 : Int32)
    · refine k_tsw_in X0 hx (q := 122) (hb hby d1_1) (by rw [hs7]; decide) (o := 121) (by rw [hs7]; rfl) (by decide) (by decide) ?_
      refine k_iconst X0 hx (v := (0 : Int32)) rfl (q := 123) rfl (hb hby d1_122) ?_
      exact k_retN X0 hx (t := .boolean) hlk (by decide) (by decide) hret (by simp) (hb hby d1_123) ⟨retI_eq (((rfl : f1 x0 x1 = _).trans (if_neg hs1)).trans (if_pos hs7)), N0, e0⟩
    · by_cases hs8 : x0 = (2 : Int32)
      · refine k_tsw_in X0 hx (q := 104) (hb hby d1_1) (by rw [hs8]; decide) (o := 103) (by rw [hs8]; rfl) (by decide) (by decide) ?_
        refine k_iloadN X0 hx (q := 105) rfl (hb hby d1_104) rfl ?_
        refine k_bipush X0 hx (v := (8 : Int32)) rfl (q := 107) rfl (hb hby d1_105) ?_
        refine k_icmp_eq X0 hx (q1 := 116) (q := 110) (by decide) (by decide) rfl (hb hby d1_107) (fun hc9 => ?_) (fun hc9 => ?_)
        · refine k_iconst X0 hx (v := (1 : Int32)) rfl (q := 117) rfl (hb hby d1_116) ?_
          refine k_goto X0 hx (q := 121) (by decide) (by decide) (hb hby d1_117) ?_
          exact k_retN X0 hx (t := .boolean) hlk (by decide) (by decide) hret (by simp) (hb hby d1_121) ⟨retI_eq (((((rfl : f1 x0 x1 = _).trans (if_neg hs1)).trans (if_neg hs7)).trans (if_pos hs8)).trans (if_pos hc9)), N0, e0⟩
        · refine k_iloadN X0 hx (q := 111) rfl (hb hby d1_110) rfl ?_
          refine k_bipush X0 hx (v := (16 : Int32)) rfl (q := 113) rfl (hb hby d1_111) ?_
          refine k_icmp_ne X0 hx (q1 := 120) (q := 116) (by decide) (by decide) rfl (hb hby d1_113) (fun hc10 => ?_) (fun hc10 => ?_)
          · refine k_iconst X0 hx (v := (0 : Int32)) rfl (q := 121) rfl (hb hby d1_120) ?_
            exact k_retN X0 hx (t := .boolean) hlk (by decide) (by decide) hret (by simp) (hb hby d1_121) ⟨retI_eq ((((((rfl : f1 x0 x1 = _).trans (if_neg hs1)).trans (if_neg hs7)).trans (if_pos hs8)).trans (if_neg hc9)).trans (if_neg hc10)), N0, e0⟩
          · refine k_iconst X0 hx (v := (1 : Int32)) rfl (q := 117) rfl (hb hby d1_116) ?_
            refine k_goto X0 hx (q := 121) (by decide) (by decide) (hb hby d1_117) ?_
            exact k_retN X0 hx (t := .boolean) hlk (by decide) (by decide) hret (by simp) (hb hby d1_121) ⟨retI_eq ((((((rfl : f1 x0 x1 = _).trans (if_neg hs1)).trans (if_neg hs7)).trans (if_pos hs8)).trans (if_neg hc9)).trans (if_pos hc10)), N0, e0⟩
      · by_cases hs11 : x0 = (3 : Int32)
        · refine k_tsw_in X0 hx (q := 77) (hb hby d1_1) (by rw [hs11]; decide) (o := 76) (by rw [hs11]; rfl) (by decide) (by decide) ?_
          refine k_iloadN X0 hx (q := 78) rfl (hb hby d1_77) rfl ?_
          refine k_iconst X0 hx (v := (1 : Int32)) rfl (q := 79) rfl (hb hby d1_78) ?_
          refine k_icmp_eq X0 hx (q1 := 98) (q := 82) (by decide) (by decide) rfl (hb hby d1_79) (fun hc12 => ?_) (fun hc12 => ?_)
          · refine k_iconst X0 hx (v := (1 : Int32)) rfl (q := 99) rfl (hb hby d1_98) ?_
            refine k_goto X0 hx (q := 103) (by decide) (by decide) (hb hby d1_99) ?_
            exact k_retN X0 hx (t := .boolean) hlk (by decide) (by decide) hret (by simp) (hb hby d1_103) ⟨retI_eq ((((((rfl : f1 x0 x1 = _).trans (if_neg hs1)).trans (if_neg hs7)).trans (if_neg hs8)).trans (if_pos hs11)).trans (if_pos hc12)), N0, e0⟩
          · refine k_iloadN X0 hx (q := 83) rfl (hb hby d1_82) rfl ?_
            refine k_iconst X0 hx (v := (2 : Int32)) rfl (q := 84) rfl (hb hby d1_83) ?_
            refine k_icmp_eq X0 hx (q1 := 98) (q := 87) (by decide) (by decide) rfl (hb hby d1_84) (fun hc13 => ?_) (fun hc13 => ?_)
            · refine k_iconst X0 hx (v := (1 : Int32)) rfl (q := 99) rfl (hb hby d1_98) ?_
              refine k_goto X0 hx (q := 103) (by decide) (by decide) (hb hby d1_99) ?_
              exact k_retN X0 hx (t := .boolean) hlk (by decide) (by decide) hret (by simp) (hb hby d1_103) ⟨retI_eq (((((((rfl : f1 x0 x1 = _).trans (if_neg hs1)).trans (if_neg hs7)).trans (if_neg hs8)).trans (if_pos hs11)).trans (if_neg hc12)).trans (if_pos hc13)), N0, e0⟩
            · refine k_iloadN X0 hx (q := 88) rfl (hb hby d1_87) rfl ?_
              refine k_iconst X0 hx (v := (4 : Int32)) rfl (q := 89) rfl (hb hby d1_88) ?_
              refine k_icmp_eq X0 hx (q1 := 98) (q := 92) (by decide) (by decide) rfl (hb hby d1_89) (fun hc14 => ?_) (fun hc14 => ?_)
              · refine k_iconst X0 hx (v := (1 : Int32)) rfl (q := 99) rfl (hb hby d1_98) ?_
                refine k_goto X0 hx (q := 103) (by decide) (by decide) (hb hby d1_99) ?_
                exact k_retN X0 hx (t := .boolean) hlk (by decide) (by decide) hret (by simp) (hb hby d1_103) ⟨retI_eq ((((((((rfl : f1 x0 x1 = _).trans (if_neg hs1)).trans (if_neg hs7)).trans (if_neg hs8)).trans (if_pos hs11)).trans (if_neg hc12)).trans (if_neg hc13)).trans (if_pos hc14)), N0, e0⟩
              · refine k_iloadN X0 hx (q := 93) rfl (hb hby d1_92) rfl ?_
                refine k_bipush X0 hx (v := (8 : Int32)) rfl (q := 95) rfl (hb hby d1_93) ?_
                refine k_icmp_ne X0 hx (q1 := 102) (q := 98) (by decide) (by decide) rfl (hb hby d1_95) (fun hc15 => ?_) (fun hc15 => ?_)
                · refine k_iconst X0 hx (v := (0 : Int32)) rfl (q := 103) rfl (hb hby d1_102) ?_
                  exact k_retN X0 hx (t := .boolean) hlk (by decide) (by decide) hret (by simp) (hb hby d1_103) ⟨retI_eq (((((((((rfl : f1 x0 x1 = _).trans (if_neg hs1)).trans (if_neg hs7)).trans (if_neg hs8)).trans (if_pos hs11)).trans (if_neg hc12)).trans (if_neg hc13)).trans (if_neg hc14)).trans (if_neg hc15)), N0, e0⟩
                · refine k_iconst X0 hx (v := (1 : Int32)) rfl (q := 99) rfl (hb hby d1_98) ?_
                  refine k_goto X0 hx (q := 103) (by decide) (by decide) (hb hby d1_99) ?_
                  exact k_retN X0 hx (t := .boolean) hlk (by decide) (by decide) hret (by simp) (hb hby d1_103) ⟨retI_eq (((((((((rfl : f1 x0 x1 = _).trans (if_neg hs1)).trans (if_neg hs7)).trans (if_neg hs8)).trans (if_pos hs11)).trans (if_neg hc12)).trans (if_neg hc13)).trans (if_neg hc14)).trans (if_pos hc15)), N0, e0⟩
        · by_cases hs16 : x0 = (4 : Int32)
          · refine k_tsw_in X0 hx (q := 104) (hb hby d1_1) (by rw [hs16]; decide) (o := 103) (by rw [hs16]; rfl) (by decide) (by decide) ?_
            refine k_iloadN X0 hx (q := 105) rfl (hb hby d1_104) rfl ?_
            refine k_bipush X0 hx (v := (8 : Int32)) rfl (q := 107) rfl (hb hby d1_105) ?_
            refine k_icmp_eq X0 hx (q1 := 116) (q := 110) (by decide) (by decide) rfl (hb hby d1_107) (fun hc17 => ?_) (fun hc17 => ?_)
            · refine k_iconst X0 hx (v := (1 : Int32)) rfl (q := 117) rfl (hb hby d1_116) ?_
              refine k_goto X0 hx (q := 121) (by decide) (by decide) (hb hby d1_117) ?_
              exact k_retN X0 hx (t := .boolean) hlk (by decide) (by decide) hret (by simp) (hb hby d1_121) ⟨retI_eq (((((((rfl : f1 x0 x1 = _).trans (if_neg hs1)).trans (if_neg hs7)).trans (if_neg hs8)).trans (if_neg hs11)).trans (if_pos hs16)).trans (if_pos hc17)), N0, e0⟩
            · refine k_iloadN X0 hx (q := 111) rfl (hb hby d1_110) rfl ?_
              refine k_bipush X0 hx (v := (16 : Int32)) rfl (q := 113) rfl (hb hby d1_111) ?_
              refine k_icmp_ne X0 hx (q1 := 120) (q := 116) (by decide) (by decide) rfl (hb hby d1_113) (fun hc18 => ?_) (fun hc18 => ?_)
              · refine k_iconst X0 hx (v := (0 : Int32)) rfl (q := 121) rfl (hb hby d1_120) ?_
                exact k_retN X0 hx (t := .boolean) hlk (by decide) (by decide) hret (by simp) (hb hby d1_121) ⟨retI_eq ((((((((rfl : f1 x0 x1 = _).trans (if_neg hs1)).trans (if_neg hs7)).trans (if_neg hs8)).trans (if_neg hs11)).trans (if_pos hs16)).trans (if_neg hc17)).trans (if_neg hc18)), N0, e0⟩
              · refine k_iconst X0 hx (v := (1 : Int32)) rfl (q := 117) rfl (hb hby d1_116) ?_
                refine k_goto X0 hx (q := 121) (by decide) (by decide) (hb hby d1_117) ?_
                exact k_retN X0 hx (t := .boolean) hlk (by decide) (by decide) hret (by simp) (hb hby d1_121) ⟨retI_eq ((((((((rfl : f1 x0 x1 = _).trans (if_neg hs1)).trans (if_neg hs7)).trans (if_neg hs8)).trans (if_neg hs11)).trans (if_pos hs16)).trans (if_neg hc17)).trans (if_pos hc18)), N0, e0⟩
          · by_cases hs19 : x0 = (5 : Int32)
            · refine k_tsw_in X0 hx (q := 122) (hb hby d1_1) (by rw [hs19]; decide) (o := 121) (by rw [hs19]; rfl) (by decide) (by decide) ?_
              refine k_iconst X0 hx (v := (0 : Int32)) rfl (q := 123) rfl (hb hby d1_122) ?_
              exact k_retN X0 hx (t := .boolean) hlk (by decide) (by decide) hret (by simp) (hb hby d1_123) ⟨retI_eq (((((((rfl : f1 x0 x1 = _).trans (if_neg hs1)).trans (if_neg hs7)).trans (if_neg hs8)).trans (if_neg hs11)).trans (if_neg hs16)).trans (if_pos hs19)), N0, e0⟩
            · by_cases hs20 : x0 = (6 : Int32)
              · refine k_tsw_in X0 hx (q := 104) (hb hby d1_1) (by rw [hs20]; decide) (o := 103) (by rw [hs20]; rfl) (by decide) (by decide) ?_
                refine k_iloadN X0 hx (q := 105) rfl (hb hby d1_104) rfl ?_
                refine k_bipush X0 hx (v := (8 : Int32)) rfl (q := 107) rfl (hb hby d1_105) ?_
                refine k_icmp_eq X0 hx (q1 := 116) (q := 110) (by decide) (by decide) rfl (hb hby d1_107) (fun hc21 => ?_) (fun hc21 => ?_)
                · refine k_iconst X0 hx (v := (1 : Int32)) rfl (q := 117) rfl (hb hby d1_116) ?_
                  refine k_goto X0 hx (q := 121) (by decide) (by decide) (hb hby d1_117) ?_
                  exact k_retN X0 hx (t := .boolean) hlk (by decide) (by decide) hret (by simp) (hb hby d1_121) ⟨retI_eq (((((((((rfl : f1 x0 x1 = _).trans (if_neg hs1)).trans (if_neg hs7)).trans (if_neg hs8)).trans (if_neg hs11)).trans (if_neg hs16)).trans (if_neg hs19)).trans (if_pos hs20)).trans (if_pos hc21)), N0, e0⟩
                · refine k_iloadN X0 hx (q := 111) rfl (hb hby d1_110) rfl ?_
                  refine k_bipush X0 hx (v := (16 : Int32)) rfl (q := 113) rfl (hb hby d1_111) ?_
                  refine k_icmp_ne X0 hx (q1 := 120) (q := 116) (by decide) (by decide) rfl (hb hby d1_113) (fun hc22 => ?_) (fun hc22 => ?_)
                  · refine k_iconst X0 hx (v := (0 : Int32)) rfl (q := 121) rfl (hb hby d1_120) ?_
                    exact k_retN X0 hx (t := .boolean) hlk (by decide) (by decide) hret (by simp) (hb hby d1_121) ⟨retI_eq ((((((((((rfl : f1 x0 x1 = _).trans (if_neg hs1)).trans (if_neg hs7)).trans (if_neg hs8)).trans (if_neg hs11)).trans (if_neg hs16)).trans (if_neg hs19)).trans (if_pos hs20)).trans (if_neg hc21)).trans (if_neg hc22)), N0, e0⟩
                  · refine k_iconst X0 hx (v := (1 : Int32)) rfl (q := 117) rfl (hb hby d1_116) ?_
                    refine k_goto X0 hx (q := 121) (by decide) (by decide) (hb hby d1_117) ?_
                    exact k_retN X0 hx (t := .boolean) hlk (by decide) (by decide) hret (by simp) (hb hby d1_121) ⟨retI_eq ((((((((((rfl : f1 x0 x1 = _).trans (if_neg hs1)).trans (if_neg hs7)).trans (if_neg hs8)).trans (if_neg hs11)).trans (if_neg hs16)).trans (if_neg hs19)).trans (if_pos hs20)).trans (if_neg hc21)).trans (if_pos hc22)), N0, e0⟩
              · refine k_tsw_out X0 hx (q := 122) (hb hby d1_1) (own_sw1 _ hs1 hs7 hs8 hs11 hs16 hs19 hs20) (by decide) (by decide) ?_
                refine k_iconst X0 hx (v := (0 : Int32)) rfl (q := 123) rfl (hb hby d1_122) ?_
                exact k_retN X0 hx (t := .boolean) hlk (by decide) (by decide) hret (by simp) (hb hby d1_123) ⟨retI_eq ((((((((rfl : f1 x0 x1 = _).trans (if_neg hs1)).trans (if_neg hs7)).trans (if_neg hs8)).trans (if_neg hs11)).trans (if_neg hs16)).trans (if_neg hs19)).trans (if_neg hs20)), N0, e0⟩
theorem ef_0 (m : MethodId) (x0 : Int32) (x1 : Int32) (x2 : Int32) : entryFrame m #[(.int x0), (.int x1), (.int x2)] maxLocals = mkF m 0 #[.val (.int x0), .val (.int x1), .val (.int x2), .unset, .unset, .unset] [] := by first | (simp [entryFrame, mkF, argsToLocals, Value.category, maxLocals]; done) | rfl
def f0_56 (y0 : Int32) (y1 : Int32) (y2 : Int32) (y3 : Int32) (y4 : Int32) (y5 : Int32) : Int32 := (if (f1 y3 y4) = (f2 y3 y4) then (1 : Int32) else (0 : Int32))
def f0_14 (y0 : Int32) (y1 : Int32) (y2 : Int32) (z0 : Int32) : Int32 := (if (((y2.toUInt32 >>> ((1 : Int32) &&& 31).toUInt32).toInt32) &&& (3 : Int32)) = (0 : Int32) then (f0_56 y0 y1 y2 z0 (y1 &&& (31 : Int32)) (((y2.toUInt32 >>> ((1 : Int32) &&& 31).toUInt32).toInt32) &&& (3 : Int32))) else (if (((y2.toUInt32 >>> ((1 : Int32) &&& 31).toUInt32).toInt32) &&& (3 : Int32)) = (1 : Int32) then (f0_56 y0 y1 y2 z0 y1 (((y2.toUInt32 >>> ((1 : Int32) &&& 31).toUInt32).toInt32) &&& (3 : Int32))) else (f0_56 y0 y1 y2 z0 ((1 : Int32) <<< ((y1 &&& (31 : Int32)) &&& 31)) (((y2.toUInt32 >>> ((1 : Int32) &&& 31).toUInt32).toInt32) &&& (3 : Int32)))))
def f0 (x0 : Int32) (x1 : Int32) (x2 : Int32) : Int32 := (if (x2 &&& (1 : Int32)) = (0 : Int32) then (f0_14 x0 x1 x2 (x0 &&& (7 : Int32))) else (f0_14 x0 x1 x2 x0))
set_option maxRecDepth 65536 in
set_option maxHeartbeats 40000000 in
theorem rm0 (l : Launch) (Z : State) (a0 : Array Value) (hw : ∀ d ∈ tables_1, d.before a0 Z = true) (x0 : Int32) (x1 : Int32) (x2 : Int32) (h0 : Heap) (n0 : Nat) :
    Con l Z x code maxLocals ret tables_1 room_1 #[(.int x0), (.int x1), (.int x2)] h0 (fun v h L => v = some (.int (f0 x0 x1 x2)) ∧ Fr n0 L ∧ h = h0) := by
  refine Con.of pn_0 ?_
  intro p e s m below meth c s₁ X0 hx hby hml hown hnm hret hlk hZ e0
  refine End.cast ?_ (ef_0 m x0 x1 x2)
  have N0 := Fr.nil n0
  have K56 : ∀ (T : State) (locs : List Loc), Stand p l e room_1 s m #[(.int x0), (.int x1), (.int x2)] below meth c T locs 0 0 → T.heap = h0 → Fr n0 locs → ∀ (y0 : Int32) (y1 : Int32) (y2 : Int32) (y3 : Int32) (y4 : Int32) (y5 : Int32), f0 x0 x1 x2 = f0_56 y0 y1 y2 y3 y4 y5 → End p e below s (fun v h L => v = some (.int (f0 x0 x1 x2)) ∧ Fr n0 L ∧ h = h0) room_1.cells room_1.slots (T.setTop (mkF m 56 #[.val (.int y0), .val (.int y1), .val (.int y2), .val (.int y3), .val (.int y4), .val (.int y5)] [])) := by
    intro T locs X eT NT y0 y1 y2 y3 y4 y5 hf
    refine k_iloadN X hx (q := 57) rfl (hb hby at_56) rfl ?_
    refine k_iload X hx (q := 59) rfl (hb hby at_57) rfl ?_
    refine k_callS X hx hZ (y := (⟨"com/example/rasterloom/rasterloom/PngSamples", "isValidDepth", "(II)Z"⟩ : MethodName)) hown (hw _ (List.mem_of_getElem? (i := 0) rfl)) (hw _ (List.mem_of_getElem? (i := 1) rfl)) (hw _ (List.mem_of_getElem? (i := 2) rfl)) (hw _ (List.mem_of_getElem? (i := 3) rfl)) (by decide) 0 eT (rm1 l Z a0 hw y3 y4 h0 n0) (by decide) (by decide) (by decide) (by decide) (by rw [hml]; rfl) (as := [(.int y3), (.int y4)]) (rest := []) pd_0 rfl (by first | exact Nat.le_refl _ | simp [Value.category]) (q := 62) rfl (hb hby at_59) ?_
    rintro _ T1 L1 X1 ⟨rfl, N1q, e1⟩
    have N1 := Fr.app NT N1q
    show End _ _ _ _ _ _ _ (T1.setTop (mkF m 62 #[.val (.int y0), .val (.int y1), .val (.int y2), .val (.int y3), .val (.int y4), .val (.int y5)] [(.int (f1 y3 y4))]))
    refine k_iloadN X1 hx (q := 63) rfl (hb hby at_62) rfl ?_
    refine k_iload X1 hx (q := 65) rfl (hb hby at_63) rfl ?_
    refine k_callS X1 hx hZ (y := (⟨"com/example/rasterloom/rasterloom/PngSamplesIsValidDepthPinLaw", "expected", "(II)Z"⟩ : MethodName)) hown (hw _ (List.mem_of_getElem? (i := 4) rfl)) (hw _ (List.mem_of_getElem? (i := 5) rfl)) (hw _ (List.mem_of_getElem? (i := 6) rfl)) (hw _ (List.mem_of_getElem? (i := 7) rfl)) (by decide) 1 e1 (rm2 l Z a0 hw y3 y4 h0 n0) (by decide) (by decide) (by decide) (by decide) (by rw [hml]; rfl) (as := [(.int y3), (.int y4)]) (rest := [(.int (f1 y3 y4))]) pd_0 rfl (by first | exact Nat.le_refl _ | simp [Value.category]) (q := 68) rfl (hb hby at_65) ?_
    rintro _ T2 L2 X2 ⟨rfl, N2q, e2⟩
    have N2 := Fr.app N1 N2q
    show End _ _ _ _ _ _ _ (T2.setTop (mkF m 68 #[.val (.int y0), .val (.int y1), .val (.int y2), .val (.int y3), .val (.int y4), .val (.int y5)] [(.int (f2 y3 y4)), (.int (f1 y3 y4))]))
    refine k_icmp_ne X2 hx (q1 := 75) (q := 71) (by decide) (by decide) rfl (hb hby at_68) (fun hc3 => ?_) (fun hc3 => ?_)
    · refine k_iconst X2 hx (v := (0 : Int32)) rfl (q := 76) rfl (hb hby at_75) ?_
      exact k_retN X2 hx (t := .boolean) hlk (by decide) (by decide) hret (by simp) (hb hby at_76) ⟨retI_eq (hf.trans (if_neg hc3)), N2, e2⟩
    · refine k_iconst X2 hx (v := (1 : Int32)) rfl (q := 72) rfl (hb hby at_71) ?_
      refine k_goto X2 hx (q := 76) (by decide) (by decide) (hb hby at_72) ?_
      exact k_retN X2 hx (t := .boolean) hlk (by decide) (by decide) hret (by simp) (hb hby at_76) ⟨retI_eq (hf.trans (if_pos hc3)), N2, e2⟩
  have K14 : ∀ (T : State) (locs : List Loc), Stand p l e room_1 s m #[(.int x0), (.int x1), (.int x2)] below meth c T locs 0 0 → T.heap = h0 → Fr n0 locs → ∀ (y0 : Int32) (y1 : Int32) (y2 : Int32) (z0 : Int32), f0 x0 x1 x2 = f0_14 y0 y1 y2 z0 → End p e below s (fun v h L => v = some (.int (f0 x0 x1 x2)) ∧ Fr n0 L ∧ h = h0) room_1.cells room_1.slots (T.setTop (mkF m 14 #[.val (.int y0), .val (.int y1), .val (.int y2), .unset, .unset, .unset] [(.int z0)])) := by
    intro T locs X eT NT y0 y1 y2 z0 hf
    refine k_istoreN X hx (L' := #[.val (.int y0), .val (.int y1), .val (.int y2), .val (.int z0), .unset, .unset]) (q := 15) rfl (hb hby at_14) rfl ?_
    refine k_iloadN X hx (q := 16) rfl (hb hby at_15) rfl ?_
    refine k_iconst X hx (v := (1 : Int32)) rfl (q := 17) rfl (hb hby at_16) ?_
    refine k_iushr X hx (q := 18) rfl (hb hby at_17) ?_
    refine k_iconst X hx (v := (3 : Int32)) rfl (q := 19) rfl (hb hby at_18) ?_
    refine k_iand X hx (q := 20) rfl (hb hby at_19) ?_
    refine k_istore X hx (L' := #[.val (.int y0), .val (.int y1), .val (.int y2), .val (.int z0), .unset, .val (.int (((y2.toUInt32 >>> ((1 : Int32) &&& 31).toUInt32).toInt32) &&& (3 : Int32)))]) (q := 22) rfl (hb hby at_20) rfl ?_
    refine k_iload X hx (q := 24) rfl (hb hby at_22) rfl ?_
    refine k_if_ne X hx (q1 := 36) (q := 27) (by decide) (by decide) rfl (hb hby at_24) (fun hc4 => ?_) (fun hc4 => ?_)
    · refine k_iload X hx (q := 38) rfl (hb hby at_36) rfl ?_
      refine k_iconst X hx (v := (1 : Int32)) rfl (q := 39) rfl (hb hby at_38) ?_
      refine k_icmp_ne X hx (q1 := 48) (q := 42) (by decide) (by decide) rfl (hb hby at_39) (fun hc5 => ?_) (fun hc5 => ?_)
      · refine k_iconst X hx (v := (1 : Int32)) rfl (q := 49) rfl (hb hby at_48) ?_
        refine k_iloadN X hx (q := 50) rfl (hb hby at_49) rfl ?_
        refine k_bipush X hx (v := (31 : Int32)) rfl (q := 52) rfl (hb hby at_50) ?_
        refine k_iand X hx (q := 53) rfl (hb hby at_52) ?_
        refine k_ishl X hx (q := 54) rfl (hb hby at_53) ?_
        refine k_istore X hx (L' := #[.val (.int y0), .val (.int y1), .val (.int y2), .val (.int z0), .val (.int ((1 : Int32) <<< ((y1 &&& (31 : Int32)) &&& 31))), .val (.int (((y2.toUInt32 >>> ((1 : Int32) &&& 31).toUInt32).toInt32) &&& (3 : Int32)))]) (q := 56) rfl (hb hby at_54) rfl ?_
        exact K56 _ _ X eT NT y0 y1 y2 z0 ((1 : Int32) <<< ((y1 &&& (31 : Int32)) &&& 31)) (((y2.toUInt32 >>> ((1 : Int32) &&& 31).toUInt32).toInt32) &&& (3 : Int32)) ((hf.trans (if_neg hc4)).trans (if_neg hc5))
      · refine k_iloadN X hx (q := 43) rfl (hb hby at_42) rfl ?_
        refine k_istore X hx (L' := #[.val (.int y0), .val (.int y1), .val (.int y2), .val (.int z0), .val (.int y1), .val (.int (((y2.toUInt32 >>> ((1 : Int32) &&& 31).toUInt32).toInt32) &&& (3 : Int32)))]) (q := 45) rfl (hb hby at_43) rfl ?_
        refine k_goto X hx (q := 56) (by decide) (by decide) (hb hby at_45) ?_
        exact K56 _ _ X eT NT y0 y1 y2 z0 y1 (((y2.toUInt32 >>> ((1 : Int32) &&& 31).toUInt32).toInt32) &&& (3 : Int32)) ((hf.trans (if_neg hc4)).trans (if_pos hc5))
    · refine k_iloadN X hx (q := 28) rfl (hb hby at_27) rfl ?_
      refine k_bipush X hx (v := (31 : Int32)) rfl (q := 30) rfl (hb hby at_28) ?_
      refine k_iand X hx (q := 31) rfl (hb hby at_30) ?_
      refine k_istore X hx (L' := #[.val (.int y0), .val (.int y1), .val (.int y2), .val (.int z0), .val (.int (y1 &&& (31 : Int32))), .val (.int (((y2.toUInt32 >>> ((1 : Int32) &&& 31).toUInt32).toInt32) &&& (3 : Int32)))]) (q := 33) rfl (hb hby at_31) rfl ?_
      refine k_goto X hx (q := 56) (by decide) (by decide) (hb hby at_33) ?_
      exact K56 _ _ X eT NT y0 y1 y2 z0 (y1 &&& (31 : Int32)) (((y2.toUInt32 >>> ((1 : Int32) &&& 31).toUInt32).toInt32) &&& (3 : Int32)) (hf.trans (if_pos hc4))
  refine k_iloadN X0 hx (q := 1) rfl (hb hby at_0) rfl ?_
  refine k_iconst X0 hx (v := (1 : Int32)) rfl (q := 2) rfl (hb hby at_1) ?_
  refine k_iand X0 hx (q := 3) rfl (hb hby at_2) ?_
  refine k_if_eq X0 hx (q1 := 10) (q := 6) (by decide) (by decide) rfl (hb hby at_3) (fun hc6 => ?_) (fun hc6 => ?_)
  · refine k_iloadN X0 hx (q := 11) rfl (hb hby at_10) rfl ?_
    refine k_bipush X0 hx (v := (7 : Int32)) rfl (q := 13) rfl (hb hby at_11) ?_
    refine k_iand X0 hx (q := 14) rfl (hb hby at_13) ?_
    exact K14 _ _ X0 e0 N0 x0 x1 x2 (x0 &&& (7 : Int32)) ((rfl : f0 x0 x1 x2 = _).trans (if_pos hc6))
  · refine k_iloadN X0 hx (q := 7) rfl (hb hby at_6) rfl ?_
    refine k_goto X0 hx (q := 14) (by decide) (by decide) (hb hby at_7) ?_
    exact K14 _ _ X0 e0 N0 x0 x1 x2 x0 ((rfl : f0 x0 x1 x2 = _).trans (if_neg hc6))
theorem own_16 {b : Int32} (h1 : (0 : Int32) < b) (h2 : ¬ (16 : Int32) < b) : b = 1 ∨ b = 2 ∨ b = 3 ∨ b = 4 ∨ b = 5 ∨ b = 6 ∨ b = 7 ∨ b = 8 ∨ b = 9 ∨ b = 10 ∨ b = 11 ∨ b = 12 ∨ b = 13 ∨ b = 14 ∨ b = 15 ∨ b = 16 := by
  rw [Int32.lt_iff_toInt_lt] at h1 h2
  have e0 : (0 : Int32).toInt = 0 := by decide
  have e16 : (16 : Int32).toInt = 16 := by decide
  have hb : b = Int32.ofInt b.toInt := (Int32.ofInt_toInt b).symm
  have : b.toInt = 1 ∨ b.toInt = 2 ∨ b.toInt = 3 ∨ b.toInt = 4 ∨ b.toInt = 5 ∨ b.toInt = 6 ∨ b.toInt = 7 ∨ b.toInt = 8 ∨ b.toInt = 9 ∨ b.toInt = 10 ∨ b.toInt = 11 ∨ b.toInt = 12 ∨ b.toInt = 13 ∨ b.toInt = 14 ∨ b.toInt = 15 ∨ b.toInt = 16 := by omega
  rcases this with h | h | h | h | h | h | h | h | h | h | h | h | h | h | h | h <;> rw [h] at hb <;> subst hb <;> decide
theorem own_7 (a : Int32) : a = 0 ∨ a = 1 ∨ a = 2 ∨ a = 3 ∨ a = 4 ∨ a = 5 ∨ a = 6 ∨ (¬ a = 0 ∧ ¬ a = 1 ∧ ¬ a = 2 ∧ ¬ a = 3 ∧ ¬ a = 4 ∧ ¬ a = 5 ∧ ¬ a = 6) := by
  by_cases h0 : a = 0
  · exact Or.inl h0
  by_cases h1 : a = 1
  · exact Or.inr (Or.inl h1)
  by_cases h2 : a = 2
  · exact Or.inr (Or.inr (Or.inl h2))
  by_cases h3 : a = 3
  · exact Or.inr (Or.inr (Or.inr (Or.inl h3)))
  by_cases h4 : a = 4
  · exact Or.inr (Or.inr (Or.inr (Or.inr (Or.inl h4))))
  by_cases h5 : a = 5
  · exact Or.inr (Or.inr (Or.inr (Or.inr (Or.inr (Or.inl h5)))))
  by_cases h6 : a = 6
  · exact Or.inr (Or.inr (Or.inr (Or.inr (Or.inr (Or.inr (Or.inl h6))))))
  exact Or.inr (Or.inr (Or.inr (Or.inr (Or.inr (Or.inr (Or.inr ⟨h0, h1, h2, h3, h4, h5, h6⟩))))))
theorem own_out {b : Int32} (h : ¬ ((0 : Int32) < b ∧ ¬ (16 : Int32) < b)) : ¬ b = 1 ∧ ¬ b = 2 ∧ ¬ b = 4 ∧ ¬ b = 8 ∧ ¬ b = 16 := by
  refine ⟨?_, ?_, ?_, ?_, ?_⟩ <;> (rintro rfl; exact h (by decide))
theorem own_both (a b : Int32) : f1 a b = f2 a b := by
  by_cases h : (0 : Int32) < b ∧ ¬ (16 : Int32) < b
  · rcases own_7 a with rfl | rfl | rfl | rfl | rfl | rfl | rfl | ⟨h0, h1, h2, h3, h4, h5, h6⟩
    iterate 7 · rcases own_16 h.1 h.2 with rfl | rfl | rfl | rfl | rfl | rfl | rfl | rfl | rfl | rfl | rfl | rfl | rfl | rfl | rfl | rfl <;> decide
    have e2 : f2 a b = 0 := by
      unfold f2 f2_22 f2_23
      simp only [if_neg h0, if_neg h2, if_neg h3, if_neg h4, if_neg h6]
      simp
    rw [e2]
    unfold f1
    simp only [if_neg h0, if_neg h1, if_neg h2, if_neg h3, if_neg h4, if_neg h5, if_neg h6]
  · obtain ⟨g1, g2, g4, g8, g16⟩ := own_out h
    have e2 : f2 a b = 0 := by
      unfold f2
      by_cases p : (0 : Int32) < b
      · have q : (16 : Int32) < b := Classical.not_not.mp fun q => h ⟨p, q⟩
        rw [if_pos p, if_pos q]; rfl
      · rw [if_neg p]; rfl
    rw [e2]
    unfold f1
    simp only [if_neg g1, if_neg g2, if_neg g4, if_neg g8, if_neg g16, ite_self]
theorem own_law (x0 x1 x2 : Int32) : f0 x0 x1 x2 = 1 := by
  have k : ∀ y0 y1 y2 y3 y4 y5, f0_56 y0 y1 y2 y3 y4 y5 = 1 := fun y0 y1 y2 y3 y4 y5 => by
    unfold f0_56; rw [if_pos (own_both _ _)]
  unfold f0
  simp only [f0_14, k, ite_self]
theorem rmL (l : Launch) (Z : State) (a0 : Array Value) (hw : ∀ d ∈ tables_1, d.before a0 Z = true) (x0 : Int32) (x1 : Int32) (x2 : Int32) (h0 : Heap) (n0 : Nat) : Con l Z x code maxLocals ret tables_1 room_1 #[(.int x0), (.int x1), (.int x2)] h0 (fun v h L => v = some (.int 1) ∧ Fr n0 L) :=
  (rm0 l Z a0 hw x0 x1 x2 h0 n0).mono fun v h L q => ⟨by rw [q.1, own_law], q.2.1⟩
set_option maxRecDepth 65536 in
set_option maxHeartbeats 40000000 in
theorem comes_1 {Post : Tables → Env → Array Value → State → Outcome → State → Prop} (hpost : ∀ tb e args s v u, (limb_1_1.after args s (.returned v) u = true ∧ limb_1_2.after args s (.returned v) u = true ∧ True) → FrameEnd s (.returned v) u (Jvm.fieldLocs frame_1_writes args s ++ Jvm.arrayLocs frame_1_arrays args s ++ Jvm.staticLocs frame_1_statics s) 0 0 → Post tb e args s (.returned v) u) :
    ArmFor flags0 classFile x code maxLocals ret World_1 tables_1 room_1 Calls_1 rest_1 Pre_1 Post := by
  intro l hfl _ _ p e ha hc hk s m args below hf hA hF happ hP
  obtain ⟨hcalls, hrest, hpre⟩ := hP
  obtain ⟨-, -, -, hnamed, -, -, -, hat⟩ := (Spec.applies_iff hf).mp happ
  obtain ⟨hg, hn⟩ := and_e (Cond.before_iff.mp (show (Jvm.Cond.and given_1 narrow_1).before args s = true from hpre))
  obtain ⟨gc, g0⟩ := and_e hg
  obtain ⟨a0, g1⟩ := and_e g0
  obtain ⟨a1, g2⟩ := and_e g1
  obtain ⟨w0, w1, w2, rfl⟩ : ∃ w0 w1 w2 : Value, args = #[w0, w1, w2] := by
    have hs : args.size = 3 := by simpa [Cond.value, given_1] using gc
    obtain ⟨L⟩ := args
    match L, hs with
    | [w0, w1, w2], _ => exact ⟨w0, w1, w2, rfl⟩
  have hw := fun d (hd : d ∈ tables_1) => atoms_spec (ws := Jvm.Cond.code x code maxLocals ret :: tables_1) hat d (List.mem_cons_of_mem _ hd)
  have hfit : Fit s := fun {y c} hc i hi => by
    obtain ⟨ha, rfl⟩ := Array.getElem?_eq_some_iff.mp hc
    have q := List.all_eq_true.mp ((Array.all_eq_true_iff_forall_mem.mp hF) _ (Array.getElem_mem ha)) i (List.mem_range.mpr hi)
    simpa [Array.getElem?_eq_getElem hi] using q
  obtain ⟨i0, ei0⟩ := is_v a0
  obtain rfl : w0 = (.int i0) := Option.some.inj ei0
  obtain ⟨i1, ei1⟩ := is_v a1
  obtain rfl : w1 = (.int i1) := Option.some.inj ei1
  obtain ⟨i2, ei2⟩ := is_v g2
  obtain rfl : w2 = (.int i2) := Option.some.inj ei2
  obtain ⟨n, o, h1, h2, h3, _, L, rfl, ⟨rfl, N⟩, hq⟩ := rmL l s _ hw i0 i1 i2 s.heap s.heap.size p e ha hc hk s m _ below hf ((Spec.applies_iff_loose hf).mp happ).1 ⟨rfl, State.Warmed39.refl s, rfl⟩ trivial
  refine ⟨n, _, h1, h2, h3, hpost _ _ _ _ _ _ ⟨Cond.after_iff.mpr rfl, Cond.after_iff.mpr (eq_i res_at (Term.int_eval (1)) rfl), trivial⟩ ⟨hq.1, hq.2.1, (hq.2.2.sift fun y hy => Or.inr (N y hy)).mono (by decide) (by decide)⟩⟩
theorem main_1_1 : Claimed_1_1 := comes_1 fun _ _ _ _ _ _ h hF => ⟨h.1, hF⟩
theorem main_1_2 : Claimed_1_2 := comes_1 fun _ _ _ _ _ _ h hF => ⟨h.2.1, hF⟩
end Jvm.Pilot.@@N@@
namespace Jvm.Pilot.@@N@@
open Jvm Jvm.ClassFile Sem Op Lib Jvm.Free Jvm.Stand Jvm.Pilot.@@N@@.Jvm.D
/-! MADE BY PROGRAM (witnessworld.py) out of the Statement's table words and the real class files: 9 classes; the members and pool entries that the words name. The judged class is class 1, her method 2. -/
namespace start1
open Jvm.ClassFile
def u (s : String) : CpInfo := .utf8 (stringToUtf16 s)
/-- a pool by its gaps: so many unusable entries, then the entry; so many at the end -/
def gap : Nat → List CpInfo → List CpInfo
  | 0, r => r
  | n + 1, r => .unusable :: gap n r
def poolList (es : List (Nat × CpInfo)) (last : Nat) : List CpInfo := es.foldr (fun e r => gap e.1 (e.2 :: r)) (gap last [])
def pool (es : List (Nat × CpInfo)) (last : Nat) : Array CpInfo := ⟨poolList es last⟩
def fileOf (pool : Array CpInfo) (this : Nat) (attrs : Array Attribute := #[]) (ms : Array MethodInfo := #[]) (fl : Nat := 33) (sup : Nat := 0) (ifs : Array Nat := #[]) (fds : Array FieldInfo := #[]) : ClassFile where
  minorVersion := 0
  majorVersion := 65
  constantPool := pool
  accessFlags := fl
  thisClass := this
  superClass := sup
  interfaces := ifs
  fields := fds
  methods := ms
  attributes := attrs
def plain (name : String) (sup : Option ClassId) : Class where
  name := name
  kind := .ordinary
  loader := none
  accessFlags := 33
  super := sup
  interfaces := #[]
  cf := none
  fields := #[]
  methods := #[]
  instanceTypes := #[]
  staticTypes := #[]
  resolved := #[]
  callSites := []
  init := .initialized
  statics := none
  mirror := none

def pool0 : Array CpInfo := pool [(5, u "<init>"), (0, u "()V"), (1, .class_ 10), (1, u "java/lang/Object")] 113

def k0m0 : Method := { name := "<init>", desc := "()V", sig := { parameters := [], returnType := none }, accessFlags := 1, code := none }
/-- java/lang/Object -/
def k0 : Class := { plain "java/lang/Object" none with
  accessFlags := 33
  interfaces := #[]
  cf := some (fileOf pool0 8 #[] #[{ accessFlags := 1, nameIndex := 5, descriptorIndex := 6, attributes := #[] }] 33 0 #[] #[])
  fields := #[]
  methods := #[k0m0]
  instanceTypes := #[]
  staticTypes := #[]
  resolved := Array.replicate 124 none
  statics := none }

def pool1 : Array CpInfo := pool [(2, .class_ 4), (1, u "java/lang/Object"), (0, u "<init>"), (0, u "()V"), (0, .methodref 8 9), (0, .class_ 10), (0, .nameAndType 11 12), (0, u "com/example/rasterloom/rasterloom/PngSamples"), (0, u "isValidDepth"), (0, u "(II)Z"), (0, .methodref 14 15), (0, .class_ 16), (0, .nameAndType 17 12), (0, u "com/example/rasterloom/rasterloom/PngSamplesIsValidDepthPinLaw"), (0, u "expected"), (3, u "law"), (0, u "(III)Z")] 2

def k1m0 : Method := { name := "<init>", desc := "()V", sig := { parameters := [], returnType := none }, accessFlags := 2, code := none }
def k1c1 : Code := { maxStack := 3, maxLocals := 3, code := method_2_code, exceptionTable := #[], attributes := #[] }
def k1m1 : Method := { name := "expected", desc := "(II)Z", sig := { parameters := [.int, .int], returnType := some .boolean }, accessFlags := 10, code := some k1c1 }
def k1c2 : Code := { maxStack := 3, maxLocals := 6, code := code, exceptionTable := #[], attributes := #[] }
def k1m2 : Method := { name := "law", desc := "(III)Z", sig := { parameters := [.int, .int, .int], returnType := some .boolean }, accessFlags := 9, code := some k1c2 }
/-- com/example/rasterloom/rasterloom/PngSamplesIsValidDepthPinLaw -/
def k1 : Class := { plain "com/example/rasterloom/rasterloom/PngSamplesIsValidDepthPinLaw" (some 0) with
  accessFlags := 49
  interfaces := #[]
  cf := some (fileOf pool1 14 #[] #[{ accessFlags := 2, nameIndex := 5, descriptorIndex := 6, attributes := #[] }, { accessFlags := 10, nameIndex := 17, descriptorIndex := 12, attributes := #[] }, { accessFlags := 9, nameIndex := 21, descriptorIndex := 22, attributes := #[] }] 49 2 #[] #[])
  fields := #[]
  methods := #[k1m0, k1m1, k1m2]
  instanceTypes := #[]
  staticTypes := #[]
  resolved := Array.replicate 25 none
  statics := none }

def pool2 : Array CpInfo := pool [(2, .class_ 4), (1, u "java/lang/Object"), (3, .class_ 10), (1, u "com/example/rasterloom/rasterloom/PngSamples"), (0, u "colourType"), (0, u "I"), (2, u "bitDepth"), (2, u "channels"), (5, u "palette"), (3, u "[I"), (2, u "colourKey"), (9, u "hasAlpha"), (0, u "Z"), (29, u "FOUR_BYTES"), (0, u "Ljava/lang/invoke/VarHandle;"), (32, u "GREY"), (2, u "RGB"), (1, u "PALETTE"), (1, u "GREY_ALPHA"), (1, u "RGBA"), (1, u "MAX_TRANSPARENCY_LENGTH"), (1, u "MAX_PALETTE_LENGTH"), (1, u "OPAQUE"), (7, u "isValidDepth"), (0, u "(II)Z")] 19

def k2c0 : Code := { maxStack := 2, maxLocals := 2, code := prog_37_method_2_code, exceptionTable := #[], attributes := #[] }
def k2m0 : Method := { name := "isValidDepth", desc := "(II)Z", sig := { parameters := [.int, .int], returnType := some .boolean }, accessFlags := 8, code := some k2c0 }
/-- com/example/rasterloom/rasterloom/PngSamples -/
def k2 : Class := { plain "com/example/rasterloom/rasterloom/PngSamples" (some 0) with
  accessFlags := 48
  interfaces := #[]
  cf := some (fileOf pool2 8 #[] #[{ accessFlags := 8, nameIndex := 129, descriptorIndex := 130, attributes := #[] }] 48 2 #[] #[{ accessFlags := 24, nameIndex := 106, descriptorIndex := 12, attributes := #[] }, { accessFlags := 24, nameIndex := 109, descriptorIndex := 12, attributes := #[] }, { accessFlags := 24, nameIndex := 111, descriptorIndex := 12, attributes := #[] }, { accessFlags := 24, nameIndex := 113, descriptorIndex := 12, attributes := #[] }, { accessFlags := 24, nameIndex := 115, descriptorIndex := 12, attributes := #[] }, { accessFlags := 24, nameIndex := 117, descriptorIndex := 12, attributes := #[] }, { accessFlags := 24, nameIndex := 119, descriptorIndex := 12, attributes := #[] }, { accessFlags := 26, nameIndex := 121, descriptorIndex := 12, attributes := #[] }, { accessFlags := 26, nameIndex := 72, descriptorIndex := 73, attributes := #[] }, { accessFlags := 18, nameIndex := 11, descriptorIndex := 12, attributes := #[] }, { accessFlags := 18, nameIndex := 15, descriptorIndex := 12, attributes := #[] }, { accessFlags := 18, nameIndex := 18, descriptorIndex := 12, attributes := #[] }, { accessFlags := 18, nameIndex := 24, descriptorIndex := 28, attributes := #[] }, { accessFlags := 18, nameIndex := 31, descriptorIndex := 28, attributes := #[] }, { accessFlags := 18, nameIndex := 41, descriptorIndex := 42, attributes := #[] }])
  fields := #[{ name := "GREY", type := .int, accessFlags := 24, slot := 0, constantValue := 0 }, { name := "RGB", type := .int, accessFlags := 24, slot := 1, constantValue := 0 }, { name := "PALETTE", type := .int, accessFlags := 24, slot := 2, constantValue := 0 }, { name := "GREY_ALPHA", type := .int, accessFlags := 24, slot := 3, constantValue := 0 }, { name := "RGBA", type := .int, accessFlags := 24, slot := 4, constantValue := 0 }, { name := "MAX_TRANSPARENCY_LENGTH", type := .int, accessFlags := 24, slot := 5, constantValue := 0 }, { name := "MAX_PALETTE_LENGTH", type := .int, accessFlags := 24, slot := 6, constantValue := 0 }, { name := "OPAQUE", type := .int, accessFlags := 26, slot := 7, constantValue := 0 }, { name := "FOUR_BYTES", type := (.object "java/lang/invoke/VarHandle"), accessFlags := 26, slot := 8, constantValue := 0 }, { name := "colourType", type := .int, accessFlags := 18, slot := 0, constantValue := 0 }, { name := "bitDepth", type := .int, accessFlags := 18, slot := 1, constantValue := 0 }, { name := "channels", type := .int, accessFlags := 18, slot := 2, constantValue := 0 }, { name := "palette", type := (.array .int), accessFlags := 18, slot := 3, constantValue := 0 }, { name := "colourKey", type := (.array .int), accessFlags := 18, slot := 4, constantValue := 0 }, { name := "hasAlpha", type := .boolean, accessFlags := 18, slot := 5, constantValue := 0 }]
  methods := #[k2m0]
  instanceTypes := #[.int, .int, .int, (.array .int), (.array .int), .boolean]
  staticTypes := #[.int, .int, .int, .int, .int, .int, .int, .int, (.object "java/lang/invoke/VarHandle")]
  resolved := Array.replicate 150 none
  statics := none }

def pool3 : Array CpInfo := pool [(1, u "java/lang/Cloneable"), (0, .class_ 1), (0, u "java/lang/Object"), (0, .class_ 3)] 3

/-- java/lang/Cloneable -/
def k3 : Class := { plain "java/lang/Cloneable" (some 0) with
  accessFlags := 1537
  interfaces := #[]
  cf := some (fileOf pool3 2 #[] #[] 1537 4 #[] #[])
  fields := #[]
  methods := #[]
  instanceTypes := #[]
  staticTypes := #[]
  resolved := Array.replicate 8 none
  statics := none }

def pool4 : Array CpInfo := pool [(1, u "java/io/Serializable"), (0, .class_ 1), (0, u "java/lang/Object"), (0, .class_ 3)] 3

/-- java/io/Serializable -/
def k4 : Class := { plain "java/io/Serializable" (some 0) with
  accessFlags := 1537
  interfaces := #[]
  cf := some (fileOf pool4 2 #[] #[] 1537 4 #[] #[])
  fields := #[]
  methods := #[]
  instanceTypes := #[]
  staticTypes := #[]
  resolved := Array.replicate 8 none
  statics := none }

/-- the primitive byte -/
def k5 : Class := { plain "byte" none with kind := .primitive 'B', accessFlags := 0x411 }
/-- [B -/
def k6 : Class := { plain "[B" (some 0) with kind := .array 5 .byte, interfaces := #[3, 4], accessFlags := 1041 }

/-- the primitive int -/
def k7 : Class := { plain "int" none with kind := .primitive 'I', accessFlags := 0x411 }
/-- [I -/
def k8 : Class := { plain "[I" (some 0) with kind := .array 7 .int, interfaces := #[3, 4], accessFlags := 1041 }

def heap : Heap := #[]
def classes : Array Class := #[k0, k1, k2, k3, k4, k5, k6, k7, k8]
def interned : List (Array UInt16 × Addr) := []
def slotsUsed : Nat := 0
def theMethod : MethodId := ⟨1, 2⟩
def args0 : Array Value := #[.int 2, .int 8, .int 1]
def aboutOver (below : List Frame) : State where
  vm := { classes := classes, interned := interned.toArray }
  heap := heap
  slotsUsed := slotsUsed
  threads := #[{ frames := .invoking theMethod args0 :: below }]
def below0 : List Frame := [.native { method := ⟨0, 0⟩, args := #[] }]
def about1 : State := aboutOver below0
def p0 : Program := .bare "" "" ""
def e0 : Env := launch0.env 0 0 0
theorem w_frames : about1.frames = Frame.invoking theMethod args0 :: below0 := rfl
set_option maxRecDepth 65536 in
theorem w_args : argsFit about1.vm theMethod args0 = true := by decide +kernel
set_option maxRecDepth 65536 in
theorem w_heap : heapFits about1 = true := by decide +kernel
set_option maxRecDepth 65536 in
theorem w_runnable : about1.curStatus? = some .runnable := by decide +kernel
set_option maxRecDepth 65536 in
theorem w_alone : about1.alone = true := by decide +kernel
set_option maxRecDepth 65536 in
theorem w_named : about1.methodNamed? x = some theMethod := by decide +kernel
set_option maxRecDepth 65536 in
theorem w_hears : about1.hears theMethod below0 = true := by decide +kernel
set_option maxRecDepth 65536 in
theorem w_ripe : about1.ripe theMethod args0 below0 = true := by decide +kernel
theorem w_running : about1.status = .running := rfl
set_option maxRecDepth 65536 in
theorem w_room : about1.hasRoom e0.platform room_1 = true :=
  launch0.hasRoom_least _ room_1 (by decide +kernel) (by decide +kernel) (by decide +kernel) (by decide +kernel) (by decide +kernel) (by decide +kernel)
theorem allAtoms_all (ts : List Jvm.Cond) (a : Array Jvm.Value) (st : Jvm.State) : (allAtoms ts).before a st = ts.all (fun c => c.before a st) := by
  induction ts with
  | nil => rfl
  | cons c t ih =>
    show (Jvm.Cond.and c (allAtoms t)).before a st = _
    rw [Jvm.Cond.before_and, ih, List.all_cons]
def words1 : List Jvm.Cond := Jvm.Cond.code x code maxLocals ret :: tables_1
/-- a 'code' word, met by the world's own term for the bytes: nothing is compared byte by byte -/
theorem code_word {y : MethodName} {bytes : ByteArray} {mx : Nat} {rt : Option FieldType} {a : Array Value} {s : State} {m : MethodId} {meth : Method} {c : Code} (h1 : s.methodNamed? y = some m) (h2 : s.vm.method? m = some meth) (h3 : meth.code = some c) (h4 : c.code = bytes)
    (h5 : (c.maxLocals == mx && c.exceptionTable.isEmpty && decide (c.maxStack ≤ mostOperands) && decide (meth.sig.returnType = rt) && !meth.locks && decide (parseMethodDescriptor y.desc = some meth.sig)) = true) : (Jvm.Cond.code y bytes mx rt).before a s = true := by
  simp only [Bool.and_eq_true, beq_iff_eq, Bool.not_eq_true', decide_eq_true_eq] at h5
  obtain ⟨⟨⟨⟨⟨g1, g2⟩, g3⟩, g4⟩, g5⟩, g6⟩ := h5
  simp [Cond.before, Cond.holds, Cond.value, h1, h2, h3, h4, g1, g2, g3, g4, g5, g6]
def isCode : Jvm.Cond → Bool
  | .code _ _ _ _ => true
  | _ => false
theorem all_split {L : List Jvm.Cond} {P : Jvm.Cond → Bool} (h1 : L.all (fun c => isCode c || P c) = true) (h2 : ∀ c ∈ L.filter isCode, P c = true) : L.all P = true := by
  refine List.all_eq_true.mpr fun c hc => ?_
  have h := List.all_eq_true.mp h1 c hc
  rcases Bool.eq_false_or_eq_true (isCode c) with hi | hi
  · exact h2 c (List.mem_filter.mpr ⟨hc, hi⟩)
  · simpa [hi] using h
set_option maxRecDepth 65536 in
theorem w_c0 : (Jvm.Cond.code x code maxLocals ret).before args0 about1 = true := code_word (m := ⟨1, 2⟩) (meth := k1m2) (c := k1c2) (by decide +kernel) rfl rfl rfl (by decide +kernel)
set_option maxRecDepth 65536 in
theorem w_c1 : (Jvm.Cond.code ({ cls := "com/example/rasterloom/rasterloom/PngSamples", name := "isValidDepth", desc := "(II)Z" } : Jvm.MethodName) prog_37_method_2_code (2 : Nat) (Option.some Jvm.ClassFile.FieldType.boolean)).before args0 about1 = true := code_word (m := ⟨2, 0⟩) (meth := k2m0) (c := k2c0) (by decide +kernel) rfl rfl rfl (by decide +kernel)
set_option maxRecDepth 65536 in
theorem w_c2 : (Jvm.Cond.code ({ cls := "com/example/rasterloom/rasterloom/PngSamplesIsValidDepthPinLaw", name := "expected", desc := "(II)Z" } : Jvm.MethodName) method_2_code (3 : Nat) (Option.some Jvm.ClassFile.FieldType.boolean)).before args0 about1 = true := code_word (m := ⟨1, 1⟩) (meth := k1m1) (c := k1c1) (by decide +kernel) rfl rfl rfl (by decide +kernel)
def codes1 : List Jvm.Cond := [Jvm.Cond.code x code maxLocals ret, Jvm.Cond.code ({ cls := "com/example/rasterloom/rasterloom/PngSamples", name := "isValidDepth", desc := "(II)Z" } : Jvm.MethodName) prog_37_method_2_code (2 : Nat) (Option.some Jvm.ClassFile.FieldType.boolean), Jvm.Cond.code ({ cls := "com/example/rasterloom/rasterloom/PngSamplesIsValidDepthPinLaw", name := "expected", desc := "(II)Z" } : Jvm.MethodName) method_2_code (3 : Nat) (Option.some Jvm.ClassFile.FieldType.boolean)]
set_option maxRecDepth 65536 in
theorem codes_eq : words1.filter isCode = codes1 := rfl
theorem w_codes : ∀ c ∈ words1.filter isCode, c.before args0 about1 = true := by
  rw [codes_eq]
  intro c hc
  simp only [codes1, List.mem_cons, List.not_mem_nil, or_false] at hc
  rcases hc with rfl | rfl | rfl
  · exact w_c0
  · exact w_c1
  · exact w_c2
set_option maxRecDepth 65536 in
theorem w_t1 : words1.all (fun c => isCode c || c.before args0 about1) = true := by decide +kernel
theorem w_tables : (allAtoms (Jvm.Cond.code x code maxLocals ret :: tables_1)).before args0 about1 = true := by
  rw [allAtoms_all]
  show words1.all (fun c => c.before args0 about1) = true
  refine all_split ?_ w_codes
  rw [w_t1]
set_option maxRecDepth 65536 in
theorem w_case : (Jvm.Cond.and given_1 narrow_1).before args0 about1 = true := by decide +kernel
theorem w_applies : (headSpec (Jvm.Cond.code x code maxLocals ret :: tables_1) room_1).applies x e0.platform about1 = true :=
  (Spec.applies_iff w_frames).mpr ⟨w_running, w_runnable, w_alone, w_named, w_hears, w_ripe, w_room, w_tables⟩
theorem atStart : AtStart classFile x code maxLocals ret World_1 tables_1 room_1 Calls_1 rest_1 Pre_1 launch0 p0 e0 about1 theMethod args0 below0 :=
  ⟨lists_1, trivial, launch0.admits_env _ _ _, launch0.least_env, fairChoices_fair.cas, fairChoices_fair.clock, w_frames, w_args, w_heap, w_applies, trivial, trivial, w_case⟩
end start1
theorem witness_1 : WitnessClaimed_1 := ⟨start1.p0, start1.e0, start1.about1, start1.theMethod, start1.args0, start1.below0, start1.atStart⟩
end Jvm.Pilot.@@N@@
