import JvmDerived
import JvmDerived.Pilot.@@N@@Statement
import JvmDerived.Pilot.@@N@@Code
set_option linter.unusedVariables false
set_option linter.unusedSimpArgs false
namespace Jvm.OwnK
open Sem ClassFile Op Lib Jvm.Stand Jvm.Free Jvm.LawKit Jvm.RoadKit
/-- from cur the body's run returns; Q holds of what it returns, the heap then, the places written; F of the end -/
def EndG (p : Program) (e : Env) (below : List Frame) (F : Outcome → State → List Loc → Prop) (Q : Option Value → Heap → List Loc → Prop) (cur : State) : Prop :=
  ∃ s₂ o, Steps p.tables e below cur s₂ ∧ s₂.status = .running ∧ Ended s₂ below o ∧ ∃ v L, o = .returned v ∧ Q v s₂.heap L ∧ F o s₂ L
abbrev End (p : Program) (e : Env) (below : List Frame) (s : State) (Q : Option Value → Heap → List Loc → Prop) (cl sl : Nat) (cur : State) : Prop := EndG p e below (fun o t L => FrameEnd s o t L cl sl) Q cur
/-- a body's contract: entered with the arguments 'as' at the heap h (tables warmer than Z's) it returns, and Q holds -/
def Con (l : Launch) (Z : State) (y : MethodName) (bytes : ByteArray) (maxL : Nat) (ret : Option FieldType) (ws : List Cond) (rm : Room) (as : Array Value) (h : Heap) (Q : Option Value → Heap → List Loc → Prop) : Prop :=
  MetFree l y (head1 (Cond.code y bytes maxL ret :: ws) rm) (fun a U => a = as ∧ Z.Warmed39 U.vm ∧ U.heap = h) (fun _ _ _ _ _ => True) (fun _ U o U' => ∃ v L, o = .returned v ∧ Q v U'.heap L ∧ FrameEnd U o U' L rm.cells rm.slots)
theorem retI_eq {a b : Int32} (h : b = a) : (some (Value.int a) : Option Value) = some (.int b) := by rw [h]
theorem retJ_eq {a b : Int64} (h : b = a) : (some (Value.long a) : Option Value) = some (.long b) := by rw [h]
theorem retD_eq {a b : UInt64} (h : b = a) : (some (Value.double a) : Option Value) = some (.double b) := by rw [h]
section Steps
variable {p : Program} {l : Launch} {e : Env} {R : Room} {s : State} {m : MethodId} {args : Array Value} {below : List Frame} {meth : Method} {c : Code} {T : State} {locs : List Loc} {cells slots : Nat} {Fe : Outcome → State → List Loc → Prop} {Q : Option Value → Heap → List Loc → Prop} {cl sl : Nat} {pc q : Nat} {Ls : Array Slot} {rest : List Value}
theorem EndG.st {cur nxt : State} (k : EndG p e below Fe Q nxt) (st : ∀ t, Steps p.tables e below nxt t → Steps p.tables e below cur t) : EndG p e below Fe Q cur := by
  obtain ⟨s₂, o, h1, r⟩ := k; exact ⟨s₂, o, st _ h1, r⟩
theorem EndG.tr {cur nxt : State} (k : EndG p e below Fe Q nxt) (st : Steps p.tables e below cur nxt) : EndG p e below Fe Q cur := by
  obtain ⟨s₂, o, h1, r⟩ := k; exact ⟨s₂, o, st.trans h1, r⟩
theorem End.cast {g g' : JFrame} (k : EndG p e below Fe Q (T.setTop g')) (h : g = g') : EndG p e below Fe Q (T.setTop g) := h ▸ k
theorem Con.of {Z : State} {y : MethodName} {bytes : ByteArray} {maxL : Nat} {ret : Option FieldType} {ws : List Cond} {rm : Room} {as : Array Value} {h : Heap} (hpl : plainName y.cls = true)
    (body : ∀ (p : Program) (e : Env) (s : State) (m : MethodId) (below : List Frame) (meth : Method) (c : Code) (s₁ : State), Stand p l e rm s m as below meth c s₁ [] 0 0 → p.tables.exec = Jvm.exec → c.code = bytes → c.maxLocals = maxL → s.vm.findClass y.cls = some m.cls → meth.name = y.name → meth.sig.returnType = ret → meth.locks = false → Z.Warmed39 s.vm → s₁.heap = h → End p e below s Q rm.cells rm.slots (s₁.setTop (entryFrame m as maxL))) :
    Con l Z y bytes maxL ret ws rm as h Q := by
  refine MetFree.of_bodySF (plainFor_of_name hpl) hisR ?_
  intro p e s m args below meth c s₁ Bd hml hP hK
  obtain ⟨rfl, hZ, hh⟩ := hP
  obtain ⟨s₂, o, h1, h2, h3, v, L, h4, h5, h6⟩ := body p e s m below meth c s₁ (Stand.of_body Bd) Bd.exec Bd.bytes hml (findClass_of_methodNamed Bd.named) (name_of_methodNamed Bd.named Bd.method).1 Bd.returns Bd.notSynchronized hZ (by rw [← hh, Bd.state]; rfl)
  exact ⟨s₂, o, h1, h2, h3, v, L, h4, h5, h6⟩
theorem Con.mono {Z : State} {y : MethodName} {bytes : ByteArray} {maxL : Nat} {ret : Option FieldType} {ws : List Cond} {rm : Room} {as : Array Value} {h : Heap} {Q' : Option Value → Heap → List Loc → Prop} (k : Con l Z y bytes maxL ret ws rm as h Q) (hQ : ∀ v hh L, Q v hh L → Q' v hh L) : Con l Z y bytes maxL ret ws rm as h Q' := by
  intro p e ha hc hk s m args below hf happ hP hK
  obtain ⟨n, o, h1, h2, h3, v, L, h4, h5, h6⟩ := k p e ha hc hk s m args below hf happ hP hK
  exact ⟨n, o, h1, h2, h3, v, L, h4, hQ _ _ _ h5, h6⟩
theorem k_iloadN (X : Stand p l e R s m args below meth c T locs cells slots) (hx : p.tables.exec = Jvm.exec) {j : Fin 4} {v : Int32} (hq : pc + 1 = q) (hd : decode c.code pc = .ok (.iload_n j, 1)) (hl : Ls[j.val]? = some (.val (.int v))) (k : EndG p e below Fe Q (T.setTop (mkF m q Ls (.int v :: rest)))) : EndG p e below Fe Q (T.setTop (mkF m pc Ls (rest))) := by
  subst hq; exact k.st fun t w => XS.iloadN X.here hx rfl hd hl w
theorem k_istoreN (X : Stand p l e R s m args below meth c T locs cells slots) (hx : p.tables.exec = Jvm.exec) {j : Fin 4} {v : Int32} {L' : Array Slot} (hq : pc + 1 = q) (hd : decode c.code pc = .ok (.istore_n j, 1)) (hl : storeLocals Ls j.val (.int v) = some L') (k : EndG p e below Fe Q (T.setTop (mkF m q L' (rest)))) : EndG p e below Fe Q (T.setTop (mkF m pc Ls (.int v :: rest))) := by
  subst hq; exact k.st fun t w => XS.istoreN X.here hx rfl hd rfl hl w
theorem k_iconst (X : Stand p l e R s m args below meth c T locs cells slots) (hx : p.tables.exec = Jvm.exec) {i : Int} {v : Int32} (hv : Int32.ofInt i = v) (hq : pc + 1 = q) (hd : decode c.code pc = .ok (.iconst i, 1)) (k : EndG p e below Fe Q (T.setTop (mkF m q Ls (.int v :: rest)))) : EndG p e below Fe Q (T.setTop (mkF m pc Ls (rest))) := by
  subst hq hv; exact k.st fun t w => XS.iconst X.here hx rfl hd w
theorem k_bipush (X : Stand p l e R s m args below meth c T locs cells slots) (hx : p.tables.exec = Jvm.exec) {i : Int} {v : Int32} (hv : (Int8.ofInt i).toInt32 = v) (hq : pc + 2 = q) (hd : decode c.code pc = .ok (.bipush i, 2)) (k : EndG p e below Fe Q (T.setTop (mkF m q Ls (.int v :: rest)))) : EndG p e below Fe Q (T.setTop (mkF m pc Ls (rest))) := by
  subst hq hv; exact k.st fun t w => XS.bipush X.here hx rfl hd w
theorem k_sipush (X : Stand p l e R s m args below meth c T locs cells slots) (hx : p.tables.exec = Jvm.exec) {i : Int} {v : Int32} (hv : (Int16.ofInt i).toInt32 = v) (hq : pc + 3 = q) (hd : decode c.code pc = .ok (.sipush i, 3)) (k : EndG p e below Fe Q (T.setTop (mkF m q Ls (.int v :: rest)))) : EndG p e below Fe Q (T.setTop (mkF m pc Ls (rest))) := by
  subst hq hv; exact k.st fun t w => XS.sipush X.here hx rfl hd w
theorem k_iand (X : Stand p l e R s m args below meth c T locs cells slots) (hx : p.tables.exec = Jvm.exec) {x y : Int32} (hq : pc + 1 = q) (hd : decode c.code pc = .ok (.iand, 1)) (k : EndG p e below Fe Q (T.setTop (mkF m q Ls (.int (x &&& y) :: rest)))) : EndG p e below Fe Q (T.setTop (mkF m pc Ls (.int y :: .int x :: rest))) := by
  subst hq; exact k.st fun t w => XS.iand X.here hx rfl hd rfl w
theorem k_ior (X : Stand p l e R s m args below meth c T locs cells slots) (hx : p.tables.exec = Jvm.exec) {x y : Int32} (hq : pc + 1 = q) (hd : decode c.code pc = .ok (.ior, 1)) (k : EndG p e below Fe Q (T.setTop (mkF m q Ls (.int (x ||| y) :: rest)))) : EndG p e below Fe Q (T.setTop (mkF m pc Ls (.int y :: .int x :: rest))) := by
  subst hq; exact k.st fun t w => XS.ior X.here hx rfl hd rfl w
theorem k_goto (X : Stand p l e R s m args below meth c T locs cells slots) (hx : p.tables.exec = Jvm.exec) {o : Int} (ho : 0 ≤ (pc : Int) + o) (hp : ((pc : Int) + o).toNat = q) (hd : decode c.code pc = .ok (.goto o, 3)) (k : EndG p e below Fe Q (T.setTop (mkF m q Ls (rest)))) : EndG p e below Fe Q (T.setTop (mkF m pc Ls (rest))) :=
  k.st fun t w => XS.goto X.here hx rfl (pc0 := pc) (pc' := q) rfl hd ho hp w
theorem k_icmp_eq (X : Stand p l e R s m args below meth c T locs cells slots) (hx : p.tables.exec = Jvm.exec) {x y : Int32} {o : Int} {q1 : Nat} (ho : 0 ≤ (pc : Int) + o) (hp : ((pc : Int) + o).toNat = q1) (hq : pc + 3 = q) (hd : decode c.code pc = .ok (.if_icmp .eq o, 3)) (kt : x = y → EndG p e below Fe Q (T.setTop (mkF m q1 Ls (rest)))) (kf : ¬ x = y → EndG p e below Fe Q (T.setTop (mkF m q Ls (rest)))) : EndG p e below Fe Q (T.setTop (mkF m pc Ls (.int y :: .int x :: rest))) := by
  by_cases h : x = y
  · exact (kt h).st fun t w => XS.icmpYes X.here hx rfl (pc0 := pc) (pc' := q1) rfl hd rfl (XT.ii_eq_t h) ho hp w
  · subst hq; exact (kf h).st fun t w => XS.icmpNo X.here hx rfl hd rfl (XT.ii_eq_f h) w
theorem k_if_eq (X : Stand p l e R s m args below meth c T locs cells slots) (hx : p.tables.exec = Jvm.exec) {x : Int32} {o : Int} {q1 : Nat} (ho : 0 ≤ (pc : Int) + o) (hp : ((pc : Int) + o).toNat = q1) (hq : pc + 3 = q) (hd : decode c.code pc = .ok (.ifCond .eq o, 3)) (kt : x = 0 → EndG p e below Fe Q (T.setTop (mkF m q1 Ls (rest)))) (kf : ¬ x = 0 → EndG p e below Fe Q (T.setTop (mkF m q Ls (rest)))) : EndG p e below Fe Q (T.setTop (mkF m pc Ls (.int x :: rest))) := by
  by_cases h : x = 0
  · exact (kt h).st fun t w => XS.ifYes X.here hx rfl (pc0 := pc) (pc' := q1) rfl hd rfl (XT.i0_eq_t h) ho hp w
  · subst hq; exact (kf h).st fun t w => XS.ifNo X.here hx rfl hd rfl (XT.i0_eq_f h) w
theorem k_icmp_ne (X : Stand p l e R s m args below meth c T locs cells slots) (hx : p.tables.exec = Jvm.exec) {x y : Int32} {o : Int} {q1 : Nat} (ho : 0 ≤ (pc : Int) + o) (hp : ((pc : Int) + o).toNat = q1) (hq : pc + 3 = q) (hd : decode c.code pc = .ok (.if_icmp .ne o, 3)) (kt : ¬ x = y → EndG p e below Fe Q (T.setTop (mkF m q1 Ls (rest)))) (kf : x = y → EndG p e below Fe Q (T.setTop (mkF m q Ls (rest)))) : EndG p e below Fe Q (T.setTop (mkF m pc Ls (.int y :: .int x :: rest))) := by
  by_cases h : x = y
  · subst hq; exact (kf h).st fun t w => XS.icmpNo X.here hx rfl hd rfl (XT.ii_ne_f h) w
  · exact (kt h).st fun t w => XS.icmpYes X.here hx rfl (pc0 := pc) (pc' := q1) rfl hd rfl (XT.ii_ne_t h) ho hp w
theorem k_icmp_lt (X : Stand p l e R s m args below meth c T locs cells slots) (hx : p.tables.exec = Jvm.exec) {x y : Int32} {o : Int} {q1 : Nat} (ho : 0 ≤ (pc : Int) + o) (hp : ((pc : Int) + o).toNat = q1) (hq : pc + 3 = q) (hd : decode c.code pc = .ok (.if_icmp .lt o, 3)) (kt : x < y → EndG p e below Fe Q (T.setTop (mkF m q1 Ls (rest)))) (kf : ¬ x < y → EndG p e below Fe Q (T.setTop (mkF m q Ls (rest)))) : EndG p e below Fe Q (T.setTop (mkF m pc Ls (.int y :: .int x :: rest))) := by
  by_cases h : x < y
  · exact (kt h).st fun t w => XS.icmpYes X.here hx rfl (pc0 := pc) (pc' := q1) rfl hd rfl (XT.ii_lt_t h) ho hp w
  · subst hq; exact (kf h).st fun t w => XS.icmpNo X.here hx rfl hd rfl (XT.ii_lt_f h) w
theorem k_if_lt (X : Stand p l e R s m args below meth c T locs cells slots) (hx : p.tables.exec = Jvm.exec) {x : Int32} {o : Int} {q1 : Nat} (ho : 0 ≤ (pc : Int) + o) (hp : ((pc : Int) + o).toNat = q1) (hq : pc + 3 = q) (hd : decode c.code pc = .ok (.ifCond .lt o, 3)) (kt : x < 0 → EndG p e below Fe Q (T.setTop (mkF m q1 Ls (rest)))) (kf : ¬ x < 0 → EndG p e below Fe Q (T.setTop (mkF m q Ls (rest)))) : EndG p e below Fe Q (T.setTop (mkF m pc Ls (.int x :: rest))) := by
  by_cases h : x < 0
  · exact (kt h).st fun t w => XS.ifYes X.here hx rfl (pc0 := pc) (pc' := q1) rfl hd rfl (XT.i0_lt_t h) ho hp w
  · subst hq; exact (kf h).st fun t w => XS.ifNo X.here hx rfl hd rfl (XT.i0_lt_f h) w
theorem k_icmp_ge (X : Stand p l e R s m args below meth c T locs cells slots) (hx : p.tables.exec = Jvm.exec) {x y : Int32} {o : Int} {q1 : Nat} (ho : 0 ≤ (pc : Int) + o) (hp : ((pc : Int) + o).toNat = q1) (hq : pc + 3 = q) (hd : decode c.code pc = .ok (.if_icmp .ge o, 3)) (kt : ¬ x < y → EndG p e below Fe Q (T.setTop (mkF m q1 Ls (rest)))) (kf : x < y → EndG p e below Fe Q (T.setTop (mkF m q Ls (rest)))) : EndG p e below Fe Q (T.setTop (mkF m pc Ls (.int y :: .int x :: rest))) := by
  by_cases h : x < y
  · subst hq; exact (kf h).st fun t w => XS.icmpNo X.here hx rfl hd rfl (XT.ii_ge_f h) w
  · exact (kt h).st fun t w => XS.icmpYes X.here hx rfl (pc0 := pc) (pc' := q1) rfl hd rfl (XT.ii_ge_t h) ho hp w
theorem k_icmp_gt (X : Stand p l e R s m args below meth c T locs cells slots) (hx : p.tables.exec = Jvm.exec) {x y : Int32} {o : Int} {q1 : Nat} (ho : 0 ≤ (pc : Int) + o) (hp : ((pc : Int) + o).toNat = q1) (hq : pc + 3 = q) (hd : decode c.code pc = .ok (.if_icmp .gt o, 3)) (kt : y < x → EndG p e below Fe Q (T.setTop (mkF m q1 Ls (rest)))) (kf : ¬ y < x → EndG p e below Fe Q (T.setTop (mkF m q Ls (rest)))) : EndG p e below Fe Q (T.setTop (mkF m pc Ls (.int y :: .int x :: rest))) := by
  by_cases h : y < x
  · exact (kt h).st fun t w => XS.icmpYes X.here hx rfl (pc0 := pc) (pc' := q1) rfl hd rfl (XT.ii_gt_t h) ho hp w
  · subst hq; exact (kf h).st fun t w => XS.icmpNo X.here hx rfl hd rfl (XT.ii_gt_f h) w
theorem k_icmp_le (X : Stand p l e R s m args below meth c T locs cells slots) (hx : p.tables.exec = Jvm.exec) {x y : Int32} {o : Int} {q1 : Nat} (ho : 0 ≤ (pc : Int) + o) (hp : ((pc : Int) + o).toNat = q1) (hq : pc + 3 = q) (hd : decode c.code pc = .ok (.if_icmp .le o, 3)) (kt : ¬ y < x → EndG p e below Fe Q (T.setTop (mkF m q1 Ls (rest)))) (kf : y < x → EndG p e below Fe Q (T.setTop (mkF m q Ls (rest)))) : EndG p e below Fe Q (T.setTop (mkF m pc Ls (.int y :: .int x :: rest))) := by
  by_cases h : y < x
  · subst hq; exact (kf h).st fun t w => XS.icmpNo X.here hx rfl hd rfl (XT.ii_le_f h) w
  · exact (kt h).st fun t w => XS.icmpYes X.here hx rfl (pc0 := pc) (pc' := q1) rfl hd rfl (XT.ii_le_t h) ho hp w
theorem k_retN (X : Stand p l e R s m args below meth c T locs cells slots) (hx : p.tables.exec = Jvm.exec) {z : Int32} {t : FieldType} (hlk : meth.locks = false) (hcl : cells ≤ cl) (hsl : slots ≤ sl) (hret : meth.sig.returnType = some t) (ht : t = .boolean ∨ t = .byte ∨ t = .char ∨ t = .short) (hd : decode c.code pc = .ok (.ireturn, 1)) (hQ : Q (some (.int (nar t z))) T.heap locs) : End p e below s Q cl sl (T.setTop (mkF m pc Ls (.int z :: rest))) := by
  obtain ⟨fs, hr, hrun, hended, hW, hsame⟩ := X.leave (v := (some (.int (nar t z)))) (fun h => by rw [hret] at h; cases h) hlk
  refine ⟨_, _, ?_, hrun, hended, _, _, rfl, hQ, ⟨_, rfl⟩, hW, hsame.mono hcl hsl⟩
  exact retN X hx hret ht hd hr
variable {Z : State} {a0 : Array Value} {h : Heap}
theorem k_ldcI (X : Stand p l e R s m args below meth c T locs cells slots) (hx : p.tables.exec = Jvm.exec) (hZ : Z.Warmed39 s.vm) {own : String} {index : Nat} {v : Int32} (hown : s.vm.findClass own = some m.cls) (w0 : (Cond.constant own index v).before a0 Z = true) (hq : pc + 2 = q) (hd : decode c.code pc = .ok (.ldc index, 2)) (k : EndG p e below Fe Q (T.setTop (mkF m q Ls (.int v :: rest)))) : EndG p e below Fe Q (T.setTop (mkF m pc Ls (rest))) := by
  subst hq; exact k.st fun t w => X.ldcInt hx hown (mvT hZ w0) (g := (mkF m pc Ls (rest))) rfl hd t w
theorem k_ldcwI (X : Stand p l e R s m args below meth c T locs cells slots) (hx : p.tables.exec = Jvm.exec) (hZ : Z.Warmed39 s.vm) {own : String} {index : Nat} {v : Int32} (hown : s.vm.findClass own = some m.cls) (w0 : (Cond.constant own index v).before a0 Z = true) (hq : pc + 3 = q) (hd : decode c.code pc = .ok (.ldc_w index, 3)) (k : EndG p e below Fe Q (T.setTop (mkF m q Ls (.int v :: rest)))) : EndG p e below Fe Q (T.setTop (mkF m pc Ls (rest))) := by
  subst hq; exact k.st fun t w => X.ldcwInt hx hown (mvT hZ w0) (g := (mkF m pc Ls (rest))) rfl hd t w
end Steps
/-- the array at a has n places; the place t holds v t -/
def Ary (Z : State) (h : Heap) (a : Addr) (ty : FieldType) (n : Nat) (v : Nat → Value) : Prop := ∃ c : Cell, Arr Z h a c ty ∧ c.slots.size = n ∧ n < 2 ^ 31 ∧ ∀ t, t < n → c.slots[t]? = some (v t)
/-- g, but x at i -/
def upd {α : Type} (g : Nat → α) (i : Nat) (x : α) : Nat → α := fun t => if t = i then x else g t
theorem upd_same {α : Type} (g : Nat → α) (i : Nat) (x : α) : upd g i x i = x := if_pos rfl
theorem upd_other {α : Type} (g : Nat → α) {i t : Nat} (x : α) (q : t ≠ i) : upd g i x t = g t := if_neg q
section Arys
variable {Z : State} {h h' : Heap} {a b : Addr} {ty : FieldType} {n : Nat} {v w : Nat → Value} {sl : Nat} {x : Value} {ws : List Addr}
theorem Ary.lt (F : Ary Z h a ty n v) : a < h.size := by obtain ⟨c, A, -⟩ := F; exact A.lt
theorem Ary.ext (F : Ary Z h a ty n v) (E : Ext h h') : Ary Z h' a ty n v := by obtain ⟨c, A, r⟩ := F; exact ⟨c, A.ext E, r⟩
theorem Ary.other (F : Ary Z h b ty n v) (W : Wr h h' a sl x) (q : b ≠ a) : Ary Z h' b ty n v := by obtain ⟨c, A, r⟩ := F; exact ⟨c, A.other W q, r⟩
theorem Ary.keep (F : Ary Z h a ty n v) (K : Keep h h' ws) (q : a ∉ ws) : Ary Z h' a ty n v := by obtain ⟨c, A, r⟩ := F; exact ⟨c, ⟨K.2.1 a c A.1 q, A.2⟩, r⟩
theorem Ary.same (F : Ary Z h a ty n v) (W : Wr h h' a sl x) : Ary Z h' a ty n (fun t => if t = sl then x else v t) := by
  obtain ⟨c, A, S, B, H⟩ := F
  refine ⟨_, A.same W, by rw [sz_set, S], B, fun t ht => ?_⟩
  by_cases q : t = sl
  · subst q; simp [Cell.setSlot, S, ht]
  · simp only [if_neg q, Cell.setSlot]; rw [Array.getElem?_setIfInBounds_ne (Ne.symm q)]; exact H t ht
theorem Ary.congr (F : Ary Z h a ty n v) (q : ∀ t, t < n → v t = w t) : Ary Z h a ty n w := by obtain ⟨c, A, S, B, H⟩ := F; exact ⟨c, A, S, B, fun t ht => by rw [H t ht, q t ht]⟩
theorem Ary.new {k : ClassId} {z : Int32} (A : Arr Z h a (newA k ty z) ty) (q : ¬ z < 0) (hn : z.toNatClampNeg = n) : Ary Z h a ty n (fun _ => defaultValue ty) := by
  subst hn; exact ⟨_, A, sz_new _ _ _, (back32 q).2, fun t ht => by simp [newA, ht]⟩
theorem Keep.of_ext (E : Ext h h') : Keep h h' [] := (Keep.refl h []).ext E
def Cls (h : Heap) (a : Addr) (k : ClassId) : Prop := ∃ c : Cell, h[a]? = some c ∧ c.cls = k
theorem Cls.lt {k : ClassId} (F : Cls h a k) : a < h.size := by obtain ⟨c, h1, -⟩ := F; exact (Array.getElem?_eq_some_iff.mp h1).1
theorem Cls.keep {k : ClassId} (F : Cls h a k) (K : Keep h h' ws) : Cls h' a k := by obtain ⟨c, h1, h2⟩ := F; obtain ⟨c', q1, q2, -⟩ := K.2.2 _ _ h1; exact ⟨c', q1, q2.trans h2⟩
theorem Sto.ofA {k : ClassId} {C : String} {y : Addr} (A : Ary Z h a ty n v) (q : Cls h a k) (O : Ovr Z k C) (I : Ins Z h y C true) : Sto Z h a (.ref y) := by
  obtain ⟨c, A, r⟩ := A; obtain ⟨c', q1, q2⟩ := q; cases A.1.symm.trans q1; exact Sto.of A (q2 ▸ O) I
end Arys
theorem acmp_eq_t {a b : Addr} (h : a = b) : XT.acmp .eq (.ref a) (.ref b) = true := by subst h; simp [XT.acmp]
theorem acmp_eq_f {a b : Addr} (h : ¬ a = b) : XT.acmp .eq (.ref a) (.ref b) = false := by simp [XT.acmp, h]
theorem acmp_ne_t {a b : Addr} (h : ¬ a = b) : XT.acmp .ne (.ref a) (.ref b) = true := by simp [XT.acmp, h]
theorem acmp_ne_f {a b : Addr} (h : a = b) : XT.acmp .ne (.ref a) (.ref b) = false := by subst h; simp [XT.acmp]
/-- j names the place i -/
def Ix (j : Int32) (i : Nat) : Prop := ¬ j < 0 ∧ j.toNatClampNeg = i
theorem Ix.in {j : Int32} {i n : Nat} {c : Cell} (q : Ix j i) (S : c.slots.size = n) (hi : i < n) : ¬ (j < 0 ∨ c.slots.size ≤ j.toNatClampNeg) := fun o => o.elim q.1 fun o => by rw [S, q.2] at o; omega
theorem Ix.of {j : Int32} {i : Nat} (q : j.toInt = i) : Ix j i := by
  have h0 : ¬ j < 0 := by rw [Int32.lt_iff_toInt_lt, show (0 : Int32).toInt = 0 from by decide]; omega
  refine ⟨h0, ?_⟩
  have := nat_of h0; omega
theorem Ix.int {j : Int32} {i : Nat} (q : Ix j i) : j.toInt = i := by have := nat_of q.1; rw [q.2] at this; exact this
section Steps
variable {p : Program} {l : Launch} {e : Env} {R : Room} {s : State} {m : MethodId} {args : Array Value} {below : List Frame} {meth : Method} {c : Code} {T : State} {locs : List Loc} {cells slots : Nat} {Fe : Outcome → State → List Loc → Prop} {Q : Option Value → Heap → List Loc → Prop} {cl sl : Nat} {pc q : Nat} {Ls : Array Slot} {rest : List Value}
variable {Z : State} {a0 : Array Value} {h : Heap}
theorem k_callS (X : Stand p l e R s m args below meth c T locs cells slots) (hx : p.tables.exec = Jvm.exec) (hZ : Z.Warmed39 s.vm) {own : String} {index : Nat} {y : MethodName} {bytes : ByteArray} {maxL : Nat} {ret : Option FieldType} {rm : Room} {as : List Value} {Qc : Option Value → Heap → List Loc → Prop} (hown : s.vm.findClass own = some m.cls) (w1 : (Cond.methodLink own index y).before a0 Z = true) (w2 : (Cond.static y).before a0 Z = true) (w3 : (Cond.initialized y.cls).before a0 Z = true) (w4 : (Cond.code y bytes maxL ret).before a0 Z = true) (hy : y.cls ≠ "java/lang/invoke/MethodHandle" ∧ y.cls ≠ "java/lang/invoke/VarHandle") (W : Nat) (eT : T.heap = h) (hM : Con l Z y bytes maxL ret [] rm (as).toArray h Qc) (hf : rm.frames + 1 ≤ R.frames) (hl : W + (maxL + 11) + rm.locals ≤ R.locals) (hcl : cells + rm.cells ≤ R.cells) (hsl : slots + rm.slots ≤ R.slots) (hls : Ls.size = c.maxLocals) {ps : List FieldType} {rt : Option FieldType} (hpd : parseMethodDescriptor y.desc = some ⟨ps, rt⟩) (hlen : as.length = ps.length) (hW : 2 * 0 + (rest.map fun v => v.category).sum ≤ W) (hq : pc + 3 = q) (hd : decode c.code pc = .ok (.invokestatic index, 3)) (k : ∀ v T' L, Stand p l e R s m args below meth c T' (locs ++ L) (cells + rm.cells) (slots + rm.slots) → Qc v T'.heap L → EndG p e below Fe Q (T'.setTop (mkF m q Ls (v.toList ++ rest)))) : EndG p e below Fe Q (T.setTop (mkF m pc Ls (as.reverse ++ rest))) := by
  subst hq
  obtain ⟨v, _, ⟨T', L', k', n'⟩, -, X', ⟨Lc, hQ, l', y', z'⟩, st⟩ := Jvm.LawKit.callS X hx (y := y) hown (mvT hZ w1) (mvT hZ w2) (mvT hZ w3) (mvT hZ w4) hy (backOf (W := W) hM hZ w4 w3 hf hl) (g := (mkF m pc Ls (as.reverse ++ rest))) rfl hls (argsL := as) (rest := rest) (lenOf hpd hlen) rfl hW hd (fun _ _ => ⟨rfl, eT, hcl, hsl⟩)
  dsimp only [Pt.U, Pt.locs, Pt.cells, Pt.slots] at X' l' y' z' st hQ
  subst l' y' z'
  exact (k v T' Lc X' hQ).st st
end Steps
end Jvm.OwnK
namespace Jvm.Pilot.@@N@@
open Jvm Jvm.ClassFile Sem Op Lib Jvm.Free Jvm.Stand Jvm.LawKit Jvm.RoadKit Jvm.OwnK Bundle Jvm.Pilot.@@N@@.Jvm.D
theorem pn_0 : plainName "com/example/bones_of_bytecode/bonesofbytecode/IdTablesSimpleNameUnitPinLaw" = true := by first | (simp [plainName, overriddenIn]; done) | decide +kernel
theorem pn_1 : plainName "com/example/bones_of_bytecode/bonesofbytecode/IdTables" = true := by first | (simp [plainName, overriddenIn]; done) | decide +kernel
theorem pd_0 : parseMethodDescriptor "(IZ)Z" = some ⟨[.int, .boolean], some .boolean⟩ := by decide +kernel
theorem d3_0 : decode method_2_code 0 = .ok (.iload_n 0, 1) := by decide +kernel
theorem d3_1 : decode method_2_code 1 = .ok (.bipush 32, 2) := by decide +kernel
theorem d3_3 : decode method_2_code 3 = .ok (.if_icmp .ne 5, 3) := by decide +kernel
theorem d3_6 : decode method_2_code 6 = .ok (.iload_n 1, 1) := by decide +kernel
theorem d3_7 : decode method_2_code 7 = .ok (.ireturn, 1) := by decide +kernel
theorem d3_8 : decode method_2_code 8 = .ok (.iload_n 0, 1) := by decide +kernel
theorem d3_9 : decode method_2_code 9 = .ok (.bipush 48, 2) := by decide +kernel
theorem d3_11 : decode method_2_code 11 = .ok (.if_icmp .lt 11, 3) := by decide +kernel
theorem d3_14 : decode method_2_code 14 = .ok (.iload_n 0, 1) := by decide +kernel
theorem d3_15 : decode method_2_code 15 = .ok (.bipush 57, 2) := by decide +kernel
theorem d3_17 : decode method_2_code 17 = .ok (.if_icmp .gt 5, 3) := by decide +kernel
theorem d3_20 : decode method_2_code 20 = .ok (.iconst 1, 1) := by decide +kernel
theorem d3_21 : decode method_2_code 21 = .ok (.ireturn, 1) := by decide +kernel
theorem d3_22 : decode method_2_code 22 = .ok (.iload_n 0, 1) := by decide +kernel
theorem d3_23 : decode method_2_code 23 = .ok (.bipush 32, 2) := by decide +kernel
theorem d3_25 : decode method_2_code 25 = .ok (.ior, 1) := by decide +kernel
theorem d3_26 : decode method_2_code 26 = .ok (.istore_n 2, 1) := by decide +kernel
theorem d3_27 : decode method_2_code 27 = .ok (.iload_n 2, 1) := by decide +kernel
theorem d3_28 : decode method_2_code 28 = .ok (.bipush 97, 2) := by decide +kernel
theorem d3_30 : decode method_2_code 30 = .ok (.if_icmp .lt 11, 3) := by decide +kernel
theorem d3_33 : decode method_2_code 33 = .ok (.iload_n 2, 1) := by decide +kernel
theorem d3_34 : decode method_2_code 34 = .ok (.bipush 122, 2) := by decide +kernel
theorem d3_36 : decode method_2_code 36 = .ok (.if_icmp .gt 5, 3) := by decide +kernel
theorem d3_39 : decode method_2_code 39 = .ok (.iconst 1, 1) := by decide +kernel
theorem d3_40 : decode method_2_code 40 = .ok (.ireturn, 1) := by decide +kernel
theorem d3_41 : decode method_2_code 41 = .ok (.iload_n 0, 1) := by decide +kernel
theorem d3_42 : decode method_2_code 42 = .ok (.bipush 36, 2) := by decide +kernel
theorem d3_44 : decode method_2_code 44 = .ok (.if_icmp .eq 15, 3) := by decide +kernel
theorem d3_47 : decode method_2_code 47 = .ok (.iload_n 0, 1) := by decide +kernel
theorem d3_48 : decode method_2_code 48 = .ok (.bipush 45, 2) := by decide +kernel
theorem d3_50 : decode method_2_code 50 = .ok (.if_icmp .eq 9, 3) := by decide +kernel
theorem d3_53 : decode method_2_code 53 = .ok (.iload_n 0, 1) := by decide +kernel
theorem d3_54 : decode method_2_code 54 = .ok (.bipush 95, 2) := by decide +kernel
theorem d3_56 : decode method_2_code 56 = .ok (.if_icmp .ne 7, 3) := by decide +kernel
theorem d3_59 : decode method_2_code 59 = .ok (.iconst 1, 1) := by decide +kernel
theorem d3_60 : decode method_2_code 60 = .ok (.goto 4, 3) := by decide +kernel
theorem d3_63 : decode method_2_code 63 = .ok (.iconst 0, 1) := by decide +kernel
theorem d3_64 : decode method_2_code 64 = .ok (.ireturn, 1) := by decide +kernel
theorem ef_3 (m : MethodId) (x0 : Int32) (x1 : Int32) : entryFrame m #[(.int x0), (.int x1)] 3 = mkF m 0 #[.val (.int x0), .val (.int x1), .unset] [] := by first | (simp [entryFrame, mkF, argsToLocals, Value.category]; done) | rfl
def f3_41 (y0 : Int32) (y1 : Int32) (y2 : Int32) : Int32 := (if y0 = (36 : Int32) then (1 : Int32) else (if y0 = (45 : Int32) then (1 : Int32) else (if y0 = (95 : Int32) then (1 : Int32) else (0 : Int32))))
def f3_22 (y0 : Int32) (y1 : Int32) : Int32 := (if (y0 ||| (32 : Int32)) < (97 : Int32) then (f3_41 y0 y1 (y0 ||| (32 : Int32))) else (if (122 : Int32) < (y0 ||| (32 : Int32)) then (f3_41 y0 y1 (y0 ||| (32 : Int32))) else (1 : Int32)))
def f3 (x0 : Int32) (x1 : Int32) : Int32 := (if x0 = (32 : Int32) then (nar .boolean x1) else (if x0 < (48 : Int32) then (f3_22 x0 x1) else (if (57 : Int32) < x0 then (f3_22 x0 x1) else (1 : Int32))))
set_option maxRecDepth 65536 in
set_option maxHeartbeats 40000000 in
theorem rm3 (l : Launch) (Z : State) (a0 : Array Value) (hw : ∀ d ∈ tables_1, d.before a0 Z = true) (x0 : Int32) (x1 : Int32) (h0 : Heap) (n0 : Nat) :
    Con l Z (⟨"com/example/bones_of_bytecode/bonesofbytecode/IdTablesSimpleNameUnitPinLaw", "ascii", "(IZ)Z"⟩ : MethodName) method_2_code 3 (some .boolean) [] ({ frames := 0, cells := 0, slots := 0, locals := 0 } : Room) #[(.int x0), (.int x1)] h0 (fun v h L => v = some (.int (f3 x0 x1)) ∧ Fr n0 L ∧ h = h0) := by
  refine Con.of pn_0 ?_
  intro p e s m below meth c s₁ X0 hx hby hml hown hnm hret hlk hZ e0
  refine End.cast ?_ (ef_3 m x0 x1)
  have N0 := Fr.nil n0
  have K41 : ∀ (y0 : Int32) (y1 : Int32) (y2 : Int32), f3 x0 x1 = f3_41 y0 y1 y2 → End p e below s (fun v h L => v = some (.int (f3 x0 x1)) ∧ Fr n0 L ∧ h = h0) 0 0 (s₁.setTop (mkF m 41 #[.val (.int y0), .val (.int y1), .val (.int y2)] [])) := by
    intro y0 y1 y2 hf
    refine k_iloadN X0 hx (q := 42) rfl (hb hby d3_41) rfl ?_
    refine k_bipush X0 hx (v := (36 : Int32)) rfl (q := 44) rfl (hb hby d3_42) ?_
    refine k_icmp_eq X0 hx (q1 := 59) (q := 47) (by decide) (by decide) rfl (hb hby d3_44) (fun hc1 => ?_) (fun hc1 => ?_)
    · refine k_iconst X0 hx (v := (1 : Int32)) rfl (q := 60) rfl (hb hby d3_59) ?_
      refine k_goto X0 hx (q := 64) (by decide) (by decide) (hb hby d3_60) ?_
      exact k_retN X0 hx (t := .boolean) hlk (by decide) (by decide) hret (by simp) (hb hby d3_64) ⟨retI_eq (hf.trans (if_pos hc1)), N0, e0⟩
    · refine k_iloadN X0 hx (q := 48) rfl (hb hby d3_47) rfl ?_
      refine k_bipush X0 hx (v := (45 : Int32)) rfl (q := 50) rfl (hb hby d3_48) ?_
      refine k_icmp_eq X0 hx (q1 := 59) (q := 53) (by decide) (by decide) rfl (hb hby d3_50) (fun hc2 => ?_) (fun hc2 => ?_)
      · refine k_iconst X0 hx (v := (1 : Int32)) rfl (q := 60) rfl (hb hby d3_59) ?_
        refine k_goto X0 hx (q := 64) (by decide) (by decide) (hb hby d3_60) ?_
        exact k_retN X0 hx (t := .boolean) hlk (by decide) (by decide) hret (by simp) (hb hby d3_64) ⟨retI_eq ((hf.trans (if_neg hc1)).trans (if_pos hc2)), N0, e0⟩
      · refine k_iloadN X0 hx (q := 54) rfl (hb hby d3_53) rfl ?_
        refine k_bipush X0 hx (v := (95 : Int32)) rfl (q := 56) rfl (hb hby d3_54) ?_
        refine k_icmp_ne X0 hx (q1 := 63) (q := 59) (by decide) (by decide) rfl (hb hby d3_56) (fun hc3 => ?_) (fun hc3 => ?_)
        · refine k_iconst X0 hx (v := (0 : Int32)) rfl (q := 64) rfl (hb hby d3_63) ?_
          exact k_retN X0 hx (t := .boolean) hlk (by decide) (by decide) hret (by simp) (hb hby d3_64) ⟨retI_eq (((hf.trans (if_neg hc1)).trans (if_neg hc2)).trans (if_neg hc3)), N0, e0⟩
        · refine k_iconst X0 hx (v := (1 : Int32)) rfl (q := 60) rfl (hb hby d3_59) ?_
          refine k_goto X0 hx (q := 64) (by decide) (by decide) (hb hby d3_60) ?_
          exact k_retN X0 hx (t := .boolean) hlk (by decide) (by decide) hret (by simp) (hb hby d3_64) ⟨retI_eq (((hf.trans (if_neg hc1)).trans (if_neg hc2)).trans (if_pos hc3)), N0, e0⟩
  have K22 : ∀ (y0 : Int32) (y1 : Int32), f3 x0 x1 = f3_22 y0 y1 → End p e below s (fun v h L => v = some (.int (f3 x0 x1)) ∧ Fr n0 L ∧ h = h0) 0 0 (s₁.setTop (mkF m 22 #[.val (.int y0), .val (.int y1), .unset] [])) := by
    intro y0 y1 hf
    refine k_iloadN X0 hx (q := 23) rfl (hb hby d3_22) rfl ?_
    refine k_bipush X0 hx (v := (32 : Int32)) rfl (q := 25) rfl (hb hby d3_23) ?_
    refine k_ior X0 hx (q := 26) rfl (hb hby d3_25) ?_
    refine k_istoreN X0 hx (L' := #[.val (.int y0), .val (.int y1), .val (.int (y0 ||| (32 : Int32)))]) (q := 27) rfl (hb hby d3_26) rfl ?_
    refine k_iloadN X0 hx (q := 28) rfl (hb hby d3_27) rfl ?_
    refine k_bipush X0 hx (v := (97 : Int32)) rfl (q := 30) rfl (hb hby d3_28) ?_
    refine k_icmp_lt X0 hx (q1 := 41) (q := 33) (by decide) (by decide) rfl (hb hby d3_30) (fun hc4 => ?_) (fun hc4 => ?_)
    · exact K41 y0 y1 (y0 ||| (32 : Int32)) (hf.trans (if_pos hc4))
    · refine k_iloadN X0 hx (q := 34) rfl (hb hby d3_33) rfl ?_
      refine k_bipush X0 hx (v := (122 : Int32)) rfl (q := 36) rfl (hb hby d3_34) ?_
      refine k_icmp_gt X0 hx (q1 := 41) (q := 39) (by decide) (by decide) rfl (hb hby d3_36) (fun hc5 => ?_) (fun hc5 => ?_)
      · exact K41 y0 y1 (y0 ||| (32 : Int32)) ((hf.trans (if_neg hc4)).trans (if_pos hc5))
      · refine k_iconst X0 hx (v := (1 : Int32)) rfl (q := 40) rfl (hb hby d3_39) ?_
        exact k_retN X0 hx (t := .boolean) hlk (by decide) (by decide) hret (by simp) (hb hby d3_40) ⟨retI_eq ((hf.trans (if_neg hc4)).trans (if_neg hc5)), N0, e0⟩
  refine k_iloadN X0 hx (q := 1) rfl (hb hby d3_0) rfl ?_
  refine k_bipush X0 hx (v := (32 : Int32)) rfl (q := 3) rfl (hb hby d3_1) ?_
  refine k_icmp_ne X0 hx (q1 := 8) (q := 6) (by decide) (by decide) rfl (hb hby d3_3) (fun hc6 => ?_) (fun hc6 => ?_)
  · refine k_iloadN X0 hx (q := 9) rfl (hb hby d3_8) rfl ?_
    refine k_bipush X0 hx (v := (48 : Int32)) rfl (q := 11) rfl (hb hby d3_9) ?_
    refine k_icmp_lt X0 hx (q1 := 22) (q := 14) (by decide) (by decide) rfl (hb hby d3_11) (fun hc7 => ?_) (fun hc7 => ?_)
    · exact K22 x0 x1 (((rfl : f3 x0 x1 = _).trans (if_neg hc6)).trans (if_pos hc7))
    · refine k_iloadN X0 hx (q := 15) rfl (hb hby d3_14) rfl ?_
      refine k_bipush X0 hx (v := (57 : Int32)) rfl (q := 17) rfl (hb hby d3_15) ?_
      refine k_icmp_gt X0 hx (q1 := 22) (q := 20) (by decide) (by decide) rfl (hb hby d3_17) (fun hc8 => ?_) (fun hc8 => ?_)
      · exact K22 x0 x1 ((((rfl : f3 x0 x1 = _).trans (if_neg hc6)).trans (if_neg hc7)).trans (if_pos hc8))
      · refine k_iconst X0 hx (v := (1 : Int32)) rfl (q := 21) rfl (hb hby d3_20) ?_
        exact k_retN X0 hx (t := .boolean) hlk (by decide) (by decide) hret (by simp) (hb hby d3_21) ⟨retI_eq ((((rfl : f3 x0 x1 = _).trans (if_neg hc6)).trans (if_neg hc7)).trans (if_neg hc8)), N0, e0⟩
  · refine k_iloadN X0 hx (q := 7) rfl (hb hby d3_6) rfl ?_
    exact k_retN X0 hx (t := .boolean) hlk (by decide) (by decide) hret (by simp) (hb hby d3_7) ⟨retI_eq ((rfl : f3 x0 x1 = _).trans (if_pos hc6)), N0, e0⟩
theorem d1_0 : decode prog_74_method_28_code 0 = .ok (.iload_n 0, 1) := by decide +kernel
theorem d1_1 : decode prog_74_method_28_code 1 = .ok (.bipush 97, 2) := by decide +kernel
theorem d1_3 : decode prog_74_method_28_code 3 = .ok (.if_icmp .lt 9, 3) := by decide +kernel
theorem d1_6 : decode prog_74_method_28_code 6 = .ok (.iload_n 0, 1) := by decide +kernel
theorem d1_7 : decode prog_74_method_28_code 7 = .ok (.bipush 122, 2) := by decide +kernel
theorem d1_9 : decode prog_74_method_28_code 9 = .ok (.if_icmp .le 139, 3) := by decide +kernel
theorem d1_12 : decode prog_74_method_28_code 12 = .ok (.iload_n 0, 1) := by decide +kernel
theorem d1_13 : decode prog_74_method_28_code 13 = .ok (.bipush 65, 2) := by decide +kernel
theorem d1_15 : decode prog_74_method_28_code 15 = .ok (.if_icmp .lt 9, 3) := by decide +kernel
theorem d1_18 : decode prog_74_method_28_code 18 = .ok (.iload_n 0, 1) := by decide +kernel
theorem d1_19 : decode prog_74_method_28_code 19 = .ok (.bipush 90, 2) := by decide +kernel
theorem d1_21 : decode prog_74_method_28_code 21 = .ok (.if_icmp .le 127, 3) := by decide +kernel
theorem d1_24 : decode prog_74_method_28_code 24 = .ok (.iload_n 0, 1) := by decide +kernel
theorem d1_25 : decode prog_74_method_28_code 25 = .ok (.bipush 48, 2) := by decide +kernel
theorem d1_27 : decode prog_74_method_28_code 27 = .ok (.if_icmp .lt 9, 3) := by decide +kernel
theorem d1_30 : decode prog_74_method_28_code 30 = .ok (.iload_n 0, 1) := by decide +kernel
theorem d1_31 : decode prog_74_method_28_code 31 = .ok (.bipush 57, 2) := by decide +kernel
theorem d1_33 : decode prog_74_method_28_code 33 = .ok (.if_icmp .le 115, 3) := by decide +kernel
theorem d1_36 : decode prog_74_method_28_code 36 = .ok (.iload_n 0, 1) := by decide +kernel
theorem d1_37 : decode prog_74_method_28_code 37 = .ok (.bipush 36, 2) := by decide +kernel
theorem d1_39 : decode prog_74_method_28_code 39 = .ok (.if_icmp .eq 109, 3) := by decide +kernel
theorem d1_42 : decode prog_74_method_28_code 42 = .ok (.iload_n 0, 1) := by decide +kernel
theorem d1_43 : decode prog_74_method_28_code 43 = .ok (.bipush 45, 2) := by decide +kernel
theorem d1_45 : decode prog_74_method_28_code 45 = .ok (.if_icmp .eq 103, 3) := by decide +kernel
theorem d1_48 : decode prog_74_method_28_code 48 = .ok (.iload_n 0, 1) := by decide +kernel
theorem d1_49 : decode prog_74_method_28_code 49 = .ok (.bipush 95, 2) := by decide +kernel
theorem d1_51 : decode prog_74_method_28_code 51 = .ok (.if_icmp .eq 97, 3) := by decide +kernel
theorem d1_54 : decode prog_74_method_28_code 54 = .ok (.iload_n 0, 1) := by decide +kernel
theorem d1_55 : decode prog_74_method_28_code 55 = .ok (.sipush 161, 3) := by decide +kernel
theorem d1_58 : decode prog_74_method_28_code 58 = .ok (.if_icmp .lt 10, 3) := by decide +kernel
theorem d1_61 : decode prog_74_method_28_code 61 = .ok (.iload_n 0, 1) := by decide +kernel
theorem d1_62 : decode prog_74_method_28_code 62 = .ok (.sipush 8191, 3) := by decide +kernel
theorem d1_65 : decode prog_74_method_28_code 65 = .ok (.if_icmp .le 83, 3) := by decide +kernel
theorem d1_68 : decode prog_74_method_28_code 68 = .ok (.iload_n 0, 1) := by decide +kernel
theorem d1_69 : decode prog_74_method_28_code 69 = .ok (.sipush 8208, 3) := by decide +kernel
theorem d1_72 : decode prog_74_method_28_code 72 = .ok (.if_icmp .lt 10, 3) := by decide +kernel
theorem d1_75 : decode prog_74_method_28_code 75 = .ok (.iload_n 0, 1) := by decide +kernel
theorem d1_76 : decode prog_74_method_28_code 76 = .ok (.sipush 8231, 3) := by decide +kernel
theorem d1_79 : decode prog_74_method_28_code 79 = .ok (.if_icmp .le 69, 3) := by decide +kernel
theorem d1_82 : decode prog_74_method_28_code 82 = .ok (.iload_n 0, 1) := by decide +kernel
theorem d1_83 : decode prog_74_method_28_code 83 = .ok (.sipush 8240, 3) := by decide +kernel
theorem d1_86 : decode prog_74_method_28_code 86 = .ok (.if_icmp .lt 10, 3) := by decide +kernel
theorem d1_89 : decode prog_74_method_28_code 89 = .ok (.iload_n 0, 1) := by decide +kernel
theorem d1_90 : decode prog_74_method_28_code 90 = .ok (.ldc_w 468, 3) := by decide +kernel
theorem d1_93 : decode prog_74_method_28_code 93 = .ok (.if_icmp .le 55, 3) := by decide +kernel
theorem d1_96 : decode prog_74_method_28_code 96 = .ok (.iload_n 0, 1) := by decide +kernel
theorem d1_97 : decode prog_74_method_28_code 97 = .ok (.ldc_w 469, 3) := by decide +kernel
theorem d1_100 : decode prog_74_method_28_code 100 = .ok (.if_icmp .lt 10, 3) := by decide +kernel
theorem d1_103 : decode prog_74_method_28_code 103 = .ok (.iload_n 0, 1) := by decide +kernel
theorem d1_104 : decode prog_74_method_28_code 104 = .ok (.ldc_w 470, 3) := by decide +kernel
theorem d1_107 : decode prog_74_method_28_code 107 = .ok (.if_icmp .le 41, 3) := by decide +kernel
theorem d1_110 : decode prog_74_method_28_code 110 = .ok (.iload_n 1, 1) := by decide +kernel
theorem d1_111 : decode prog_74_method_28_code 111 = .ok (.ifCond .eq 41, 3) := by decide +kernel
theorem d1_114 : decode prog_74_method_28_code 114 = .ok (.iload_n 0, 1) := by decide +kernel
theorem d1_115 : decode prog_74_method_28_code 115 = .ok (.bipush 32, 2) := by decide +kernel
theorem d1_117 : decode prog_74_method_28_code 117 = .ok (.if_icmp .eq 31, 3) := by decide +kernel
theorem d1_120 : decode prog_74_method_28_code 120 = .ok (.iload_n 0, 1) := by decide +kernel
theorem d1_121 : decode prog_74_method_28_code 121 = .ok (.sipush 160, 3) := by decide +kernel
theorem d1_124 : decode prog_74_method_28_code 124 = .ok (.if_icmp .eq 24, 3) := by decide +kernel
theorem d1_127 : decode prog_74_method_28_code 127 = .ok (.iload_n 0, 1) := by decide +kernel
theorem d1_128 : decode prog_74_method_28_code 128 = .ok (.sipush 8192, 3) := by decide +kernel
theorem d1_131 : decode prog_74_method_28_code 131 = .ok (.if_icmp .lt 10, 3) := by decide +kernel
theorem d1_134 : decode prog_74_method_28_code 134 = .ok (.iload_n 0, 1) := by decide +kernel
theorem d1_135 : decode prog_74_method_28_code 135 = .ok (.sipush 8202, 3) := by decide +kernel
theorem d1_138 : decode prog_74_method_28_code 138 = .ok (.if_icmp .le 10, 3) := by decide +kernel
theorem d1_141 : decode prog_74_method_28_code 141 = .ok (.iload_n 0, 1) := by decide +kernel
theorem d1_142 : decode prog_74_method_28_code 142 = .ok (.sipush 8239, 3) := by decide +kernel
theorem d1_145 : decode prog_74_method_28_code 145 = .ok (.if_icmp .ne 7, 3) := by decide +kernel
theorem d1_148 : decode prog_74_method_28_code 148 = .ok (.iconst 1, 1) := by decide +kernel
theorem d1_149 : decode prog_74_method_28_code 149 = .ok (.goto 4, 3) := by decide +kernel
theorem d1_152 : decode prog_74_method_28_code 152 = .ok (.iconst 0, 1) := by decide +kernel
theorem d1_153 : decode prog_74_method_28_code 153 = .ok (.ireturn, 1) := by decide +kernel
theorem ef_1 (m : MethodId) (x0 : Int32) (x1 : Int32) : entryFrame m #[(.int x0), (.int x1)] 2 = mkF m 0 #[.val (.int x0), .val (.int x1)] [] := by first | (simp [entryFrame, mkF, argsToLocals, Value.category]; done) | rfl
def f1_141 (y0 : Int32) (y1 : Int32) : Int32 := (if y0 = (8239 : Int32) then (1 : Int32) else (0 : Int32))
def f1_110 (y0 : Int32) (y1 : Int32) : Int32 := (if y1 = (0 : Int32) then (0 : Int32) else (if y0 = (32 : Int32) then (1 : Int32) else (if y0 = (160 : Int32) then (1 : Int32) else (if y0 < (8192 : Int32) then (f1_141 y0 y1) else (if (8202 : Int32) < y0 then (f1_141 y0 y1) else (1 : Int32))))))
def f1_96 (y0 : Int32) (y1 : Int32) : Int32 := (if y0 < (57344 : Int32) then (f1_110 y0 y1) else (if (65519 : Int32) < y0 then (f1_110 y0 y1) else (1 : Int32)))
def f1_82 (y0 : Int32) (y1 : Int32) : Int32 := (if y0 < (8240 : Int32) then (f1_96 y0 y1) else (if (55295 : Int32) < y0 then (f1_96 y0 y1) else (1 : Int32)))
def f1_68 (y0 : Int32) (y1 : Int32) : Int32 := (if y0 < (8208 : Int32) then (f1_82 y0 y1) else (if (8231 : Int32) < y0 then (f1_82 y0 y1) else (1 : Int32)))
def f1_36 (y0 : Int32) (y1 : Int32) : Int32 := (if y0 = (36 : Int32) then (1 : Int32) else (if y0 = (45 : Int32) then (1 : Int32) else (if y0 = (95 : Int32) then (1 : Int32) else (if y0 < (161 : Int32) then (f1_68 y0 y1) else (if (8191 : Int32) < y0 then (f1_68 y0 y1) else (1 : Int32))))))
def f1_24 (y0 : Int32) (y1 : Int32) : Int32 := (if y0 < (48 : Int32) then (f1_36 y0 y1) else (if (57 : Int32) < y0 then (f1_36 y0 y1) else (1 : Int32)))
def f1_12 (y0 : Int32) (y1 : Int32) : Int32 := (if y0 < (65 : Int32) then (f1_24 y0 y1) else (if (90 : Int32) < y0 then (f1_24 y0 y1) else (1 : Int32)))
def f1 (x0 : Int32) (x1 : Int32) : Int32 := (if x0 < (97 : Int32) then (f1_12 x0 x1) else (if (122 : Int32) < x0 then (f1_12 x0 x1) else (1 : Int32)))
set_option maxRecDepth 65536 in
set_option maxHeartbeats 40000000 in
theorem rm1 (l : Launch) (Z : State) (a0 : Array Value) (hw : ∀ d ∈ tables_1, d.before a0 Z = true) (x0 : Int32) (x1 : Int32) (h0 : Heap) (n0 : Nat) :
    Con l Z (⟨"com/example/bones_of_bytecode/bonesofbytecode/IdTables", "simpleNameUnit", "(IZ)Z"⟩ : MethodName) prog_74_method_28_code 2 (some .boolean) [] ({ frames := 0, cells := 0, slots := 0, locals := 0 } : Room) #[(.int x0), (.int x1)] h0 (fun v h L => v = some (.int (f1 x0 x1)) ∧ Fr n0 L ∧ h = h0) := by
  refine Con.of pn_1 ?_
  intro p e s m below meth c s₁ X0 hx hby hml hown hnm hret hlk hZ e0
  refine End.cast ?_ (ef_1 m x0 x1)
  have N0 := Fr.nil n0
  have K141 : ∀ (y0 : Int32) (y1 : Int32), f1 x0 x1 = f1_141 y0 y1 → End p e below s (fun v h L => v = some (.int (f1 x0 x1)) ∧ Fr n0 L ∧ h = h0) 0 0 (s₁.setTop (mkF m 141 #[.val (.int y0), .val (.int y1)] [])) := by
    intro y0 y1 hf
    refine k_iloadN X0 hx (q := 142) rfl (hb hby d1_141) rfl ?_
    refine k_sipush X0 hx (v := (8239 : Int32)) rfl (q := 145) rfl (hb hby d1_142) ?_
    refine k_icmp_ne X0 hx (q1 := 152) (q := 148) (by decide) (by decide) rfl (hb hby d1_145) (fun hc1 => ?_) (fun hc1 => ?_)
    · refine k_iconst X0 hx (v := (0 : Int32)) rfl (q := 153) rfl (hb hby d1_152) ?_
      exact k_retN X0 hx (t := .boolean) hlk (by decide) (by decide) hret (by simp) (hb hby d1_153) ⟨retI_eq (hf.trans (if_neg hc1)), N0, e0⟩
    · refine k_iconst X0 hx (v := (1 : Int32)) rfl (q := 149) rfl (hb hby d1_148) ?_
      refine k_goto X0 hx (q := 153) (by decide) (by decide) (hb hby d1_149) ?_
      exact k_retN X0 hx (t := .boolean) hlk (by decide) (by decide) hret (by simp) (hb hby d1_153) ⟨retI_eq (hf.trans (if_pos hc1)), N0, e0⟩
  have K110 : ∀ (y0 : Int32) (y1 : Int32), f1 x0 x1 = f1_110 y0 y1 → End p e below s (fun v h L => v = some (.int (f1 x0 x1)) ∧ Fr n0 L ∧ h = h0) 0 0 (s₁.setTop (mkF m 110 #[.val (.int y0), .val (.int y1)] [])) := by
    intro y0 y1 hf
    refine k_iloadN X0 hx (q := 111) rfl (hb hby d1_110) rfl ?_
    refine k_if_eq X0 hx (q1 := 152) (q := 114) (by decide) (by decide) rfl (hb hby d1_111) (fun hc2 => ?_) (fun hc2 => ?_)
    · refine k_iconst X0 hx (v := (0 : Int32)) rfl (q := 153) rfl (hb hby d1_152) ?_
      exact k_retN X0 hx (t := .boolean) hlk (by decide) (by decide) hret (by simp) (hb hby d1_153) ⟨retI_eq (hf.trans (if_pos hc2)), N0, e0⟩
    · refine k_iloadN X0 hx (q := 115) rfl (hb hby d1_114) rfl ?_
      refine k_bipush X0 hx (v := (32 : Int32)) rfl (q := 117) rfl (hb hby d1_115) ?_
      refine k_icmp_eq X0 hx (q1 := 148) (q := 120) (by decide) (by decide) rfl (hb hby d1_117) (fun hc3 => ?_) (fun hc3 => ?_)
      · refine k_iconst X0 hx (v := (1 : Int32)) rfl (q := 149) rfl (hb hby d1_148) ?_
        refine k_goto X0 hx (q := 153) (by decide) (by decide) (hb hby d1_149) ?_
        exact k_retN X0 hx (t := .boolean) hlk (by decide) (by decide) hret (by simp) (hb hby d1_153) ⟨retI_eq ((hf.trans (if_neg hc2)).trans (if_pos hc3)), N0, e0⟩
      · refine k_iloadN X0 hx (q := 121) rfl (hb hby d1_120) rfl ?_
        refine k_sipush X0 hx (v := (160 : Int32)) rfl (q := 124) rfl (hb hby d1_121) ?_
        refine k_icmp_eq X0 hx (q1 := 148) (q := 127) (by decide) (by decide) rfl (hb hby d1_124) (fun hc4 => ?_) (fun hc4 => ?_)
        · refine k_iconst X0 hx (v := (1 : Int32)) rfl (q := 149) rfl (hb hby d1_148) ?_
          refine k_goto X0 hx (q := 153) (by decide) (by decide) (hb hby d1_149) ?_
          exact k_retN X0 hx (t := .boolean) hlk (by decide) (by decide) hret (by simp) (hb hby d1_153) ⟨retI_eq (((hf.trans (if_neg hc2)).trans (if_neg hc3)).trans (if_pos hc4)), N0, e0⟩
        · refine k_iloadN X0 hx (q := 128) rfl (hb hby d1_127) rfl ?_
          refine k_sipush X0 hx (v := (8192 : Int32)) rfl (q := 131) rfl (hb hby d1_128) ?_
          refine k_icmp_lt X0 hx (q1 := 141) (q := 134) (by decide) (by decide) rfl (hb hby d1_131) (fun hc5 => ?_) (fun hc5 => ?_)
          · exact K141 y0 y1 ((((hf.trans (if_neg hc2)).trans (if_neg hc3)).trans (if_neg hc4)).trans (if_pos hc5))
          · refine k_iloadN X0 hx (q := 135) rfl (hb hby d1_134) rfl ?_
            refine k_sipush X0 hx (v := (8202 : Int32)) rfl (q := 138) rfl (hb hby d1_135) ?_
            refine k_icmp_le X0 hx (q1 := 148) (q := 141) (by decide) (by decide) rfl (hb hby d1_138) (fun hc6 => ?_) (fun hc6 => ?_)
            · refine k_iconst X0 hx (v := (1 : Int32)) rfl (q := 149) rfl (hb hby d1_148) ?_
              refine k_goto X0 hx (q := 153) (by decide) (by decide) (hb hby d1_149) ?_
              exact k_retN X0 hx (t := .boolean) hlk (by decide) (by decide) hret (by simp) (hb hby d1_153) ⟨retI_eq (((((hf.trans (if_neg hc2)).trans (if_neg hc3)).trans (if_neg hc4)).trans (if_neg hc5)).trans (if_neg hc6)), N0, e0⟩
            · exact K141 y0 y1 (((((hf.trans (if_neg hc2)).trans (if_neg hc3)).trans (if_neg hc4)).trans (if_neg hc5)).trans (if_pos hc6))
  have K96 : ∀ (y0 : Int32) (y1 : Int32), f1 x0 x1 = f1_96 y0 y1 → End p e below s (fun v h L => v = some (.int (f1 x0 x1)) ∧ Fr n0 L ∧ h = h0) 0 0 (s₁.setTop (mkF m 96 #[.val (.int y0), .val (.int y1)] [])) := by
    intro y0 y1 hf
    refine k_iloadN X0 hx (q := 97) rfl (hb hby d1_96) rfl ?_
    refine k_ldcwI X0 hx hZ (v := (57344 : Int32)) hown (hw _ (List.mem_of_getElem? (i := 4) rfl)) (q := 100) rfl (hb hby d1_97) ?_
    refine k_icmp_lt X0 hx (q1 := 110) (q := 103) (by decide) (by decide) rfl (hb hby d1_100) (fun hc7 => ?_) (fun hc7 => ?_)
    · exact K110 y0 y1 (hf.trans (if_pos hc7))
    · refine k_iloadN X0 hx (q := 104) rfl (hb hby d1_103) rfl ?_
      refine k_ldcwI X0 hx hZ (v := (65519 : Int32)) hown (hw _ (List.mem_of_getElem? (i := 16) rfl)) (q := 107) rfl (hb hby d1_104) ?_
      refine k_icmp_le X0 hx (q1 := 148) (q := 110) (by decide) (by decide) rfl (hb hby d1_107) (fun hc8 => ?_) (fun hc8 => ?_)
      · refine k_iconst X0 hx (v := (1 : Int32)) rfl (q := 149) rfl (hb hby d1_148) ?_
        refine k_goto X0 hx (q := 153) (by decide) (by decide) (hb hby d1_149) ?_
        exact k_retN X0 hx (t := .boolean) hlk (by decide) (by decide) hret (by simp) (hb hby d1_153) ⟨retI_eq ((hf.trans (if_neg hc7)).trans (if_neg hc8)), N0, e0⟩
      · exact K110 y0 y1 ((hf.trans (if_neg hc7)).trans (if_pos hc8))
  have K82 : ∀ (y0 : Int32) (y1 : Int32), f1 x0 x1 = f1_82 y0 y1 → End p e below s (fun v h L => v = some (.int (f1 x0 x1)) ∧ Fr n0 L ∧ h = h0) 0 0 (s₁.setTop (mkF m 82 #[.val (.int y0), .val (.int y1)] [])) := by
    intro y0 y1 hf
    refine k_iloadN X0 hx (q := 83) rfl (hb hby d1_82) rfl ?_
    refine k_sipush X0 hx (v := (8240 : Int32)) rfl (q := 86) rfl (hb hby d1_83) ?_
    refine k_icmp_lt X0 hx (q1 := 96) (q := 89) (by decide) (by decide) rfl (hb hby d1_86) (fun hc9 => ?_) (fun hc9 => ?_)
    · exact K96 y0 y1 (hf.trans (if_pos hc9))
    · refine k_iloadN X0 hx (q := 90) rfl (hb hby d1_89) rfl ?_
      refine k_ldcwI X0 hx hZ (v := (55295 : Int32)) hown (hw _ (List.mem_of_getElem? (i := 13) rfl)) (q := 93) rfl (hb hby d1_90) ?_
      refine k_icmp_le X0 hx (q1 := 148) (q := 96) (by decide) (by decide) rfl (hb hby d1_93) (fun hc10 => ?_) (fun hc10 => ?_)
      · refine k_iconst X0 hx (v := (1 : Int32)) rfl (q := 149) rfl (hb hby d1_148) ?_
        refine k_goto X0 hx (q := 153) (by decide) (by decide) (hb hby d1_149) ?_
        exact k_retN X0 hx (t := .boolean) hlk (by decide) (by decide) hret (by simp) (hb hby d1_153) ⟨retI_eq ((hf.trans (if_neg hc9)).trans (if_neg hc10)), N0, e0⟩
      · exact K96 y0 y1 ((hf.trans (if_neg hc9)).trans (if_pos hc10))
  have K68 : ∀ (y0 : Int32) (y1 : Int32), f1 x0 x1 = f1_68 y0 y1 → End p e below s (fun v h L => v = some (.int (f1 x0 x1)) ∧ Fr n0 L ∧ h = h0) 0 0 (s₁.setTop (mkF m 68 #[.val (.int y0), .val (.int y1)] [])) := by
    intro y0 y1 hf
    refine k_iloadN X0 hx (q := 69) rfl (hb hby d1_68) rfl ?_
    refine k_sipush X0 hx (v := (8208 : Int32)) rfl (q := 72) rfl (hb hby d1_69) ?_
    refine k_icmp_lt X0 hx (q1 := 82) (q := 75) (by decide) (by decide) rfl (hb hby d1_72) (fun hc11 => ?_) (fun hc11 => ?_)
    · exact K82 y0 y1 (hf.trans (if_pos hc11))
    · refine k_iloadN X0 hx (q := 76) rfl (hb hby d1_75) rfl ?_
      refine k_sipush X0 hx (v := (8231 : Int32)) rfl (q := 79) rfl (hb hby d1_76) ?_
      refine k_icmp_le X0 hx (q1 := 148) (q := 82) (by decide) (by decide) rfl (hb hby d1_79) (fun hc12 => ?_) (fun hc12 => ?_)
      · refine k_iconst X0 hx (v := (1 : Int32)) rfl (q := 149) rfl (hb hby d1_148) ?_
        refine k_goto X0 hx (q := 153) (by decide) (by decide) (hb hby d1_149) ?_
        exact k_retN X0 hx (t := .boolean) hlk (by decide) (by decide) hret (by simp) (hb hby d1_153) ⟨retI_eq ((hf.trans (if_neg hc11)).trans (if_neg hc12)), N0, e0⟩
      · exact K82 y0 y1 ((hf.trans (if_neg hc11)).trans (if_pos hc12))
  have K36 : ∀ (y0 : Int32) (y1 : Int32), f1 x0 x1 = f1_36 y0 y1 → End p e below s (fun v h L => v = some (.int (f1 x0 x1)) ∧ Fr n0 L ∧ h = h0) 0 0 (s₁.setTop (mkF m 36 #[.val (.int y0), .val (.int y1)] [])) := by
    intro y0 y1 hf
    refine k_iloadN X0 hx (q := 37) rfl (hb hby d1_36) rfl ?_
    refine k_bipush X0 hx (v := (36 : Int32)) rfl (q := 39) rfl (hb hby d1_37) ?_
    refine k_icmp_eq X0 hx (q1 := 148) (q := 42) (by decide) (by decide) rfl (hb hby d1_39) (fun hc13 => ?_) (fun hc13 => ?_)
    · refine k_iconst X0 hx (v := (1 : Int32)) rfl (q := 149) rfl (hb hby d1_148) ?_
      refine k_goto X0 hx (q := 153) (by decide) (by decide) (hb hby d1_149) ?_
      exact k_retN X0 hx (t := .boolean) hlk (by decide) (by decide) hret (by simp) (hb hby d1_153) ⟨retI_eq (hf.trans (if_pos hc13)), N0, e0⟩
    · refine k_iloadN X0 hx (q := 43) rfl (hb hby d1_42) rfl ?_
      refine k_bipush X0 hx (v := (45 : Int32)) rfl (q := 45) rfl (hb hby d1_43) ?_
      refine k_icmp_eq X0 hx (q1 := 148) (q := 48) (by decide) (by decide) rfl (hb hby d1_45) (fun hc14 => ?_) (fun hc14 => ?_)
      · refine k_iconst X0 hx (v := (1 : Int32)) rfl (q := 149) rfl (hb hby d1_148) ?_
        refine k_goto X0 hx (q := 153) (by decide) (by decide) (hb hby d1_149) ?_
        exact k_retN X0 hx (t := .boolean) hlk (by decide) (by decide) hret (by simp) (hb hby d1_153) ⟨retI_eq ((hf.trans (if_neg hc13)).trans (if_pos hc14)), N0, e0⟩
      · refine k_iloadN X0 hx (q := 49) rfl (hb hby d1_48) rfl ?_
        refine k_bipush X0 hx (v := (95 : Int32)) rfl (q := 51) rfl (hb hby d1_49) ?_
        refine k_icmp_eq X0 hx (q1 := 148) (q := 54) (by decide) (by decide) rfl (hb hby d1_51) (fun hc15 => ?_) (fun hc15 => ?_)
        · refine k_iconst X0 hx (v := (1 : Int32)) rfl (q := 149) rfl (hb hby d1_148) ?_
          refine k_goto X0 hx (q := 153) (by decide) (by decide) (hb hby d1_149) ?_
          exact k_retN X0 hx (t := .boolean) hlk (by decide) (by decide) hret (by simp) (hb hby d1_153) ⟨retI_eq (((hf.trans (if_neg hc13)).trans (if_neg hc14)).trans (if_pos hc15)), N0, e0⟩
        · refine k_iloadN X0 hx (q := 55) rfl (hb hby d1_54) rfl ?_
          refine k_sipush X0 hx (v := (161 : Int32)) rfl (q := 58) rfl (hb hby d1_55) ?_
          refine k_icmp_lt X0 hx (q1 := 68) (q := 61) (by decide) (by decide) rfl (hb hby d1_58) (fun hc16 => ?_) (fun hc16 => ?_)
          · exact K68 y0 y1 ((((hf.trans (if_neg hc13)).trans (if_neg hc14)).trans (if_neg hc15)).trans (if_pos hc16))
          · refine k_iloadN X0 hx (q := 62) rfl (hb hby d1_61) rfl ?_
            refine k_sipush X0 hx (v := (8191 : Int32)) rfl (q := 65) rfl (hb hby d1_62) ?_
            refine k_icmp_le X0 hx (q1 := 148) (q := 68) (by decide) (by decide) rfl (hb hby d1_65) (fun hc17 => ?_) (fun hc17 => ?_)
            · refine k_iconst X0 hx (v := (1 : Int32)) rfl (q := 149) rfl (hb hby d1_148) ?_
              refine k_goto X0 hx (q := 153) (by decide) (by decide) (hb hby d1_149) ?_
              exact k_retN X0 hx (t := .boolean) hlk (by decide) (by decide) hret (by simp) (hb hby d1_153) ⟨retI_eq (((((hf.trans (if_neg hc13)).trans (if_neg hc14)).trans (if_neg hc15)).trans (if_neg hc16)).trans (if_neg hc17)), N0, e0⟩
            · exact K68 y0 y1 (((((hf.trans (if_neg hc13)).trans (if_neg hc14)).trans (if_neg hc15)).trans (if_neg hc16)).trans (if_pos hc17))
  have K24 : ∀ (y0 : Int32) (y1 : Int32), f1 x0 x1 = f1_24 y0 y1 → End p e below s (fun v h L => v = some (.int (f1 x0 x1)) ∧ Fr n0 L ∧ h = h0) 0 0 (s₁.setTop (mkF m 24 #[.val (.int y0), .val (.int y1)] [])) := by
    intro y0 y1 hf
    refine k_iloadN X0 hx (q := 25) rfl (hb hby d1_24) rfl ?_
    refine k_bipush X0 hx (v := (48 : Int32)) rfl (q := 27) rfl (hb hby d1_25) ?_
    refine k_icmp_lt X0 hx (q1 := 36) (q := 30) (by decide) (by decide) rfl (hb hby d1_27) (fun hc18 => ?_) (fun hc18 => ?_)
    · exact K36 y0 y1 (hf.trans (if_pos hc18))
    · refine k_iloadN X0 hx (q := 31) rfl (hb hby d1_30) rfl ?_
      refine k_bipush X0 hx (v := (57 : Int32)) rfl (q := 33) rfl (hb hby d1_31) ?_
      refine k_icmp_le X0 hx (q1 := 148) (q := 36) (by decide) (by decide) rfl (hb hby d1_33) (fun hc19 => ?_) (fun hc19 => ?_)
      · refine k_iconst X0 hx (v := (1 : Int32)) rfl (q := 149) rfl (hb hby d1_148) ?_
        refine k_goto X0 hx (q := 153) (by decide) (by decide) (hb hby d1_149) ?_
        exact k_retN X0 hx (t := .boolean) hlk (by decide) (by decide) hret (by simp) (hb hby d1_153) ⟨retI_eq ((hf.trans (if_neg hc18)).trans (if_neg hc19)), N0, e0⟩
      · exact K36 y0 y1 ((hf.trans (if_neg hc18)).trans (if_pos hc19))
  have K12 : ∀ (y0 : Int32) (y1 : Int32), f1 x0 x1 = f1_12 y0 y1 → End p e below s (fun v h L => v = some (.int (f1 x0 x1)) ∧ Fr n0 L ∧ h = h0) 0 0 (s₁.setTop (mkF m 12 #[.val (.int y0), .val (.int y1)] [])) := by
    intro y0 y1 hf
    refine k_iloadN X0 hx (q := 13) rfl (hb hby d1_12) rfl ?_
    refine k_bipush X0 hx (v := (65 : Int32)) rfl (q := 15) rfl (hb hby d1_13) ?_
    refine k_icmp_lt X0 hx (q1 := 24) (q := 18) (by decide) (by decide) rfl (hb hby d1_15) (fun hc20 => ?_) (fun hc20 => ?_)
    · exact K24 y0 y1 (hf.trans (if_pos hc20))
    · refine k_iloadN X0 hx (q := 19) rfl (hb hby d1_18) rfl ?_
      refine k_bipush X0 hx (v := (90 : Int32)) rfl (q := 21) rfl (hb hby d1_19) ?_
      refine k_icmp_le X0 hx (q1 := 148) (q := 24) (by decide) (by decide) rfl (hb hby d1_21) (fun hc21 => ?_) (fun hc21 => ?_)
      · refine k_iconst X0 hx (v := (1 : Int32)) rfl (q := 149) rfl (hb hby d1_148) ?_
        refine k_goto X0 hx (q := 153) (by decide) (by decide) (hb hby d1_149) ?_
        exact k_retN X0 hx (t := .boolean) hlk (by decide) (by decide) hret (by simp) (hb hby d1_153) ⟨retI_eq ((hf.trans (if_neg hc20)).trans (if_neg hc21)), N0, e0⟩
      · exact K24 y0 y1 ((hf.trans (if_neg hc20)).trans (if_pos hc21))
  refine k_iloadN X0 hx (q := 1) rfl (hb hby d1_0) rfl ?_
  refine k_bipush X0 hx (v := (97 : Int32)) rfl (q := 3) rfl (hb hby d1_1) ?_
  refine k_icmp_lt X0 hx (q1 := 12) (q := 6) (by decide) (by decide) rfl (hb hby d1_3) (fun hc22 => ?_) (fun hc22 => ?_)
  · exact K12 x0 x1 ((rfl : f1 x0 x1 = _).trans (if_pos hc22))
  · refine k_iloadN X0 hx (q := 7) rfl (hb hby d1_6) rfl ?_
    refine k_bipush X0 hx (v := (122 : Int32)) rfl (q := 9) rfl (hb hby d1_7) ?_
    refine k_icmp_le X0 hx (q1 := 148) (q := 12) (by decide) (by decide) rfl (hb hby d1_9) (fun hc23 => ?_) (fun hc23 => ?_)
    · refine k_iconst X0 hx (v := (1 : Int32)) rfl (q := 149) rfl (hb hby d1_148) ?_
      refine k_goto X0 hx (q := 153) (by decide) (by decide) (hb hby d1_149) ?_
      exact k_retN X0 hx (t := .boolean) hlk (by decide) (by decide) hret (by simp) (hb hby d1_153) ⟨retI_eq (((rfl : f1 x0 x1 = _).trans (if_neg hc22)).trans (if_neg hc23)), N0, e0⟩
    · exact K12 x0 x1 (((rfl : f1 x0 x1 = _).trans (if_neg hc22)).trans (if_pos hc23))
theorem d2_0 : decode method_3_code 0 = .ok (.iload_n 0, 1) := by decide +kernel
theorem d2_1 : decode method_3_code 1 = .ok (.ifCond .lt 9, 3) := by decide +kernel
theorem d2_4 : decode method_3_code 4 = .ok (.iload_n 0, 1) := by decide +kernel
theorem d2_5 : decode method_3_code 5 = .ok (.ldc 7, 2) := by decide +kernel
theorem d2_7 : decode method_3_code 7 = .ok (.if_icmp .le 5, 3) := by decide +kernel
theorem d2_10 : decode method_3_code 10 = .ok (.iconst 0, 1) := by decide +kernel
theorem d2_11 : decode method_3_code 11 = .ok (.ireturn, 1) := by decide +kernel
theorem d2_12 : decode method_3_code 12 = .ok (.iload_n 0, 1) := by decide +kernel
theorem d2_13 : decode method_3_code 13 = .ok (.sipush 128, 3) := by decide +kernel
theorem d2_16 : decode method_3_code 16 = .ok (.if_icmp .ge 9, 3) := by decide +kernel
theorem d2_19 : decode method_3_code 19 = .ok (.iload_n 0, 1) := by decide +kernel
theorem d2_20 : decode method_3_code 20 = .ok (.iload_n 1, 1) := by decide +kernel
theorem d2_21 : decode method_3_code 21 = .ok (.invokestatic 8, 3) := by decide +kernel
theorem d2_24 : decode method_3_code 24 = .ok (.ireturn, 1) := by decide +kernel
theorem d2_25 : decode method_3_code 25 = .ok (.iload_n 0, 1) := by decide +kernel
theorem d2_26 : decode method_3_code 26 = .ok (.sipush 160, 3) := by decide +kernel
theorem d2_29 : decode method_3_code 29 = .ok (.if_icmp .ge 5, 3) := by decide +kernel
theorem d2_32 : decode method_3_code 32 = .ok (.iconst 0, 1) := by decide +kernel
theorem d2_33 : decode method_3_code 33 = .ok (.ireturn, 1) := by decide +kernel
theorem d2_34 : decode method_3_code 34 = .ok (.iload_n 0, 1) := by decide +kernel
theorem d2_35 : decode method_3_code 35 = .ok (.sipush 160, 3) := by decide +kernel
theorem d2_38 : decode method_3_code 38 = .ok (.if_icmp .ne 5, 3) := by decide +kernel
theorem d2_41 : decode method_3_code 41 = .ok (.iload_n 1, 1) := by decide +kernel
theorem d2_42 : decode method_3_code 42 = .ok (.ireturn, 1) := by decide +kernel
theorem d2_43 : decode method_3_code 43 = .ok (.iload_n 0, 1) := by decide +kernel
theorem d2_44 : decode method_3_code 44 = .ok (.sipush 8192, 3) := by decide +kernel
theorem d2_47 : decode method_3_code 47 = .ok (.if_icmp .ge 5, 3) := by decide +kernel
theorem d2_50 : decode method_3_code 50 = .ok (.iconst 1, 1) := by decide +kernel
theorem d2_51 : decode method_3_code 51 = .ok (.ireturn, 1) := by decide +kernel
theorem d2_52 : decode method_3_code 52 = .ok (.iload_n 0, 1) := by decide +kernel
theorem d2_53 : decode method_3_code 53 = .ok (.sipush 8240, 3) := by decide +kernel
theorem d2_56 : decode method_3_code 56 = .ok (.if_icmp .ge 43, 3) := by decide +kernel
theorem d2_59 : decode method_3_code 59 = .ok (.iload_n 0, 1) := by decide +kernel
theorem d2_60 : decode method_3_code 60 = .ok (.sipush 8208, 3) := by decide +kernel
theorem d2_63 : decode method_3_code 63 = .ok (.if_icmp .lt 12, 3) := by decide +kernel
theorem d2_66 : decode method_3_code 66 = .ok (.iload_n 0, 1) := by decide +kernel
theorem d2_67 : decode method_3_code 67 = .ok (.sipush 8231, 3) := by decide +kernel
theorem d2_70 : decode method_3_code 70 = .ok (.if_icmp .gt 5, 3) := by decide +kernel
theorem d2_73 : decode method_3_code 73 = .ok (.iconst 1, 1) := by decide +kernel
theorem d2_74 : decode method_3_code 74 = .ok (.ireturn, 1) := by decide +kernel
theorem d2_75 : decode method_3_code 75 = .ok (.iload_n 1, 1) := by decide +kernel
theorem d2_76 : decode method_3_code 76 = .ok (.ifCond .eq 21, 3) := by decide +kernel
theorem d2_79 : decode method_3_code 79 = .ok (.iload_n 0, 1) := by decide +kernel
theorem d2_80 : decode method_3_code 80 = .ok (.sipush 8202, 3) := by decide +kernel
theorem d2_83 : decode method_3_code 83 = .ok (.if_icmp .le 10, 3) := by decide +kernel
theorem d2_86 : decode method_3_code 86 = .ok (.iload_n 0, 1) := by decide +kernel
theorem d2_87 : decode method_3_code 87 = .ok (.sipush 8239, 3) := by decide +kernel
theorem d2_90 : decode method_3_code 90 = .ok (.if_icmp .ne 7, 3) := by decide +kernel
theorem d2_93 : decode method_3_code 93 = .ok (.iconst 1, 1) := by decide +kernel
theorem d2_94 : decode method_3_code 94 = .ok (.goto 4, 3) := by decide +kernel
theorem d2_97 : decode method_3_code 97 = .ok (.iconst 0, 1) := by decide +kernel
theorem d2_98 : decode method_3_code 98 = .ok (.ireturn, 1) := by decide +kernel
theorem d2_99 : decode method_3_code 99 = .ok (.iload_n 0, 1) := by decide +kernel
theorem d2_100 : decode method_3_code 100 = .ok (.ldc 14, 2) := by decide +kernel
theorem d2_102 : decode method_3_code 102 = .ok (.if_icmp .lt 11, 3) := by decide +kernel
theorem d2_105 : decode method_3_code 105 = .ok (.iload_n 0, 1) := by decide +kernel
theorem d2_106 : decode method_3_code 106 = .ok (.ldc 15, 2) := by decide +kernel
theorem d2_108 : decode method_3_code 108 = .ok (.if_icmp .gt 5, 3) := by decide +kernel
theorem d2_111 : decode method_3_code 111 = .ok (.iconst 0, 1) := by decide +kernel
theorem d2_112 : decode method_3_code 112 = .ok (.ireturn, 1) := by decide +kernel
theorem d2_113 : decode method_3_code 113 = .ok (.iload_n 0, 1) := by decide +kernel
theorem d2_114 : decode method_3_code 114 = .ok (.ldc 16, 2) := by decide +kernel
theorem d2_116 : decode method_3_code 116 = .ok (.if_icmp .ge 7, 3) := by decide +kernel
theorem d2_119 : decode method_3_code 119 = .ok (.iconst 1, 1) := by decide +kernel
theorem d2_120 : decode method_3_code 120 = .ok (.goto 4, 3) := by decide +kernel
theorem d2_123 : decode method_3_code 123 = .ok (.iconst 0, 1) := by decide +kernel
theorem d2_124 : decode method_3_code 124 = .ok (.ireturn, 1) := by decide +kernel
theorem ef_2 (m : MethodId) (x0 : Int32) (x1 : Int32) : entryFrame m #[(.int x0), (.int x1)] 2 = mkF m 0 #[.val (.int x0), .val (.int x1)] [] := by first | (simp [entryFrame, mkF, argsToLocals, Value.category]; done) | rfl
def f2_113 (y0 : Int32) (y1 : Int32) : Int32 := (if y0 < (65520 : Int32) then (1 : Int32) else (0 : Int32))
def f2_75 (y0 : Int32) (y1 : Int32) : Int32 := (if y1 = (0 : Int32) then (0 : Int32) else (if (8202 : Int32) < y0 then (if y0 = (8239 : Int32) then (1 : Int32) else (0 : Int32)) else (1 : Int32)))
def f2 (x0 : Int32) (x1 : Int32) : Int32 := (if x0 < (0 : Int32) then (0 : Int32) else (if (65535 : Int32) < x0 then (0 : Int32) else (if x0 < (128 : Int32) then (nar .boolean (f3 x0 x1)) else (if x0 < (160 : Int32) then (0 : Int32) else (if x0 = (160 : Int32) then (nar .boolean x1) else (if x0 < (8192 : Int32) then (1 : Int32) else (if x0 < (8240 : Int32) then (if x0 < (8208 : Int32) then (f2_75 x0 x1) else (if (8231 : Int32) < x0 then (f2_75 x0 x1) else (1 : Int32))) else (if x0 < (55296 : Int32) then (f2_113 x0 x1) else (if (57343 : Int32) < x0 then (f2_113 x0 x1) else (0 : Int32))))))))))
set_option maxRecDepth 65536 in
set_option maxHeartbeats 40000000 in
theorem rm2 (l : Launch) (Z : State) (a0 : Array Value) (hw : ∀ d ∈ tables_1, d.before a0 Z = true) (x0 : Int32) (x1 : Int32) (h0 : Heap) (n0 : Nat) :
    Con l Z (⟨"com/example/bones_of_bytecode/bonesofbytecode/IdTablesSimpleNameUnitPinLaw", "reference", "(IZ)Z"⟩ : MethodName) method_3_code 2 (some .boolean) [] ({ frames := 1, cells := 0, slots := 0, locals := 14 } : Room) #[(.int x0), (.int x1)] h0 (fun v h L => v = some (.int (f2 x0 x1)) ∧ Fr n0 L ∧ h = h0) := by
  refine Con.of pn_0 ?_
  intro p e s m below meth c s₁ X0 hx hby hml hown hnm hret hlk hZ e0
  refine End.cast ?_ (ef_2 m x0 x1)
  have N0 := Fr.nil n0
  have K113 : ∀ (T : State) (locs : List Loc), Stand p l e ({ frames := 1, cells := 0, slots := 0, locals := 14 } : Room) s m #[(.int x0), (.int x1)] below meth c T locs 0 0 → T.heap = h0 → Fr n0 locs → ∀ (y0 : Int32) (y1 : Int32), f2 x0 x1 = f2_113 y0 y1 → End p e below s (fun v h L => v = some (.int (f2 x0 x1)) ∧ Fr n0 L ∧ h = h0) 0 0 (T.setTop (mkF m 113 #[.val (.int y0), .val (.int y1)] [])) := by
    intro T locs X eT NT y0 y1 hf
    refine k_iloadN X hx (q := 114) rfl (hb hby d2_113) rfl ?_
    refine k_ldcI X hx hZ (v := (65520 : Int32)) hown (hw _ (List.mem_of_getElem? (i := 15) rfl)) (q := 116) rfl (hb hby d2_114) ?_
    refine k_icmp_ge X hx (q1 := 123) (q := 119) (by decide) (by decide) rfl (hb hby d2_116) (fun hc1 => ?_) (fun hc1 => ?_)
    · refine k_iconst X hx (v := (0 : Int32)) rfl (q := 124) rfl (hb hby d2_123) ?_
      exact k_retN X hx (t := .boolean) hlk (by decide) (by decide) hret (by simp) (hb hby d2_124) ⟨retI_eq (hf.trans (if_neg hc1)), NT, eT⟩
    · refine k_iconst X hx (v := (1 : Int32)) rfl (q := 120) rfl (hb hby d2_119) ?_
      refine k_goto X hx (q := 124) (by decide) (by decide) (hb hby d2_120) ?_
      exact k_retN X hx (t := .boolean) hlk (by decide) (by decide) hret (by simp) (hb hby d2_124) ⟨retI_eq (hf.trans (if_pos hc1)), NT, eT⟩
  have K75 : ∀ (T : State) (locs : List Loc), Stand p l e ({ frames := 1, cells := 0, slots := 0, locals := 14 } : Room) s m #[(.int x0), (.int x1)] below meth c T locs 0 0 → T.heap = h0 → Fr n0 locs → ∀ (y0 : Int32) (y1 : Int32), f2 x0 x1 = f2_75 y0 y1 → End p e below s (fun v h L => v = some (.int (f2 x0 x1)) ∧ Fr n0 L ∧ h = h0) 0 0 (T.setTop (mkF m 75 #[.val (.int y0), .val (.int y1)] [])) := by
    intro T locs X eT NT y0 y1 hf
    refine k_iloadN X hx (q := 76) rfl (hb hby d2_75) rfl ?_
    refine k_if_eq X hx (q1 := 97) (q := 79) (by decide) (by decide) rfl (hb hby d2_76) (fun hc2 => ?_) (fun hc2 => ?_)
    · refine k_iconst X hx (v := (0 : Int32)) rfl (q := 98) rfl (hb hby d2_97) ?_
      exact k_retN X hx (t := .boolean) hlk (by decide) (by decide) hret (by simp) (hb hby d2_98) ⟨retI_eq (hf.trans (if_pos hc2)), NT, eT⟩
    · refine k_iloadN X hx (q := 80) rfl (hb hby d2_79) rfl ?_
      refine k_sipush X hx (v := (8202 : Int32)) rfl (q := 83) rfl (hb hby d2_80) ?_
      refine k_icmp_le X hx (q1 := 93) (q := 86) (by decide) (by decide) rfl (hb hby d2_83) (fun hc3 => ?_) (fun hc3 => ?_)
      · refine k_iconst X hx (v := (1 : Int32)) rfl (q := 94) rfl (hb hby d2_93) ?_
        refine k_goto X hx (q := 98) (by decide) (by decide) (hb hby d2_94) ?_
        exact k_retN X hx (t := .boolean) hlk (by decide) (by decide) hret (by simp) (hb hby d2_98) ⟨retI_eq ((hf.trans (if_neg hc2)).trans (if_neg hc3)), NT, eT⟩
      · refine k_iloadN X hx (q := 87) rfl (hb hby d2_86) rfl ?_
        refine k_sipush X hx (v := (8239 : Int32)) rfl (q := 90) rfl (hb hby d2_87) ?_
        refine k_icmp_ne X hx (q1 := 97) (q := 93) (by decide) (by decide) rfl (hb hby d2_90) (fun hc4 => ?_) (fun hc4 => ?_)
        · refine k_iconst X hx (v := (0 : Int32)) rfl (q := 98) rfl (hb hby d2_97) ?_
          exact k_retN X hx (t := .boolean) hlk (by decide) (by decide) hret (by simp) (hb hby d2_98) ⟨retI_eq (((hf.trans (if_neg hc2)).trans (if_pos hc3)).trans (if_neg hc4)), NT, eT⟩
        · refine k_iconst X hx (v := (1 : Int32)) rfl (q := 94) rfl (hb hby d2_93) ?_
          refine k_goto X hx (q := 98) (by decide) (by decide) (hb hby d2_94) ?_
          exact k_retN X hx (t := .boolean) hlk (by decide) (by decide) hret (by simp) (hb hby d2_98) ⟨retI_eq (((hf.trans (if_neg hc2)).trans (if_pos hc3)).trans (if_pos hc4)), NT, eT⟩
  refine k_iloadN X0 hx (q := 1) rfl (hb hby d2_0) rfl ?_
  refine k_if_lt X0 hx (q1 := 10) (q := 4) (by decide) (by decide) rfl (hb hby d2_1) (fun hc5 => ?_) (fun hc5 => ?_)
  · refine k_iconst X0 hx (v := (0 : Int32)) rfl (q := 11) rfl (hb hby d2_10) ?_
    exact k_retN X0 hx (t := .boolean) hlk (by decide) (by decide) hret (by simp) (hb hby d2_11) ⟨retI_eq ((rfl : f2 x0 x1 = _).trans (if_pos hc5)), N0, e0⟩
  · refine k_iloadN X0 hx (q := 5) rfl (hb hby d2_4) rfl ?_
    refine k_ldcI X0 hx hZ (v := (65535 : Int32)) hown (hw _ (List.mem_of_getElem? (i := 9) rfl)) (q := 7) rfl (hb hby d2_5) ?_
    refine k_icmp_le X0 hx (q1 := 12) (q := 10) (by decide) (by decide) rfl (hb hby d2_7) (fun hc6 => ?_) (fun hc6 => ?_)
    · refine k_iloadN X0 hx (q := 13) rfl (hb hby d2_12) rfl ?_
      refine k_sipush X0 hx (v := (128 : Int32)) rfl (q := 16) rfl (hb hby d2_13) ?_
      refine k_icmp_ge X0 hx (q1 := 25) (q := 19) (by decide) (by decide) rfl (hb hby d2_16) (fun hc7 => ?_) (fun hc7 => ?_)
      · refine k_iloadN X0 hx (q := 26) rfl (hb hby d2_25) rfl ?_
        refine k_sipush X0 hx (v := (160 : Int32)) rfl (q := 29) rfl (hb hby d2_26) ?_
        refine k_icmp_ge X0 hx (q1 := 34) (q := 32) (by decide) (by decide) rfl (hb hby d2_29) (fun hc8 => ?_) (fun hc8 => ?_)
        · refine k_iloadN X0 hx (q := 35) rfl (hb hby d2_34) rfl ?_
          refine k_sipush X0 hx (v := (160 : Int32)) rfl (q := 38) rfl (hb hby d2_35) ?_
          refine k_icmp_ne X0 hx (q1 := 43) (q := 41) (by decide) (by decide) rfl (hb hby d2_38) (fun hc9 => ?_) (fun hc9 => ?_)
          · refine k_iloadN X0 hx (q := 44) rfl (hb hby d2_43) rfl ?_
            refine k_sipush X0 hx (v := (8192 : Int32)) rfl (q := 47) rfl (hb hby d2_44) ?_
            refine k_icmp_ge X0 hx (q1 := 52) (q := 50) (by decide) (by decide) rfl (hb hby d2_47) (fun hc10 => ?_) (fun hc10 => ?_)
            · refine k_iloadN X0 hx (q := 53) rfl (hb hby d2_52) rfl ?_
              refine k_sipush X0 hx (v := (8240 : Int32)) rfl (q := 56) rfl (hb hby d2_53) ?_
              refine k_icmp_ge X0 hx (q1 := 99) (q := 59) (by decide) (by decide) rfl (hb hby d2_56) (fun hc11 => ?_) (fun hc11 => ?_)
              · refine k_iloadN X0 hx (q := 100) rfl (hb hby d2_99) rfl ?_
                refine k_ldcI X0 hx hZ (v := (55296 : Int32)) hown (hw _ (List.mem_of_getElem? (i := 14) rfl)) (q := 102) rfl (hb hby d2_100) ?_
                refine k_icmp_lt X0 hx (q1 := 113) (q := 105) (by decide) (by decide) rfl (hb hby d2_102) (fun hc12 => ?_) (fun hc12 => ?_)
                · exact K113 _ _ X0 e0 N0 x0 x1 (((((((((rfl : f2 x0 x1 = _).trans (if_neg hc5)).trans (if_neg hc6)).trans (if_neg hc7)).trans (if_neg hc8)).trans (if_neg hc9)).trans (if_neg hc10)).trans (if_neg hc11)).trans (if_pos hc12))
                · refine k_iloadN X0 hx (q := 106) rfl (hb hby d2_105) rfl ?_
                  refine k_ldcI X0 hx hZ (v := (57343 : Int32)) hown (hw _ (List.mem_of_getElem? (i := 17) rfl)) (q := 108) rfl (hb hby d2_106) ?_
                  refine k_icmp_gt X0 hx (q1 := 113) (q := 111) (by decide) (by decide) rfl (hb hby d2_108) (fun hc13 => ?_) (fun hc13 => ?_)
                  · exact K113 _ _ X0 e0 N0 x0 x1 ((((((((((rfl : f2 x0 x1 = _).trans (if_neg hc5)).trans (if_neg hc6)).trans (if_neg hc7)).trans (if_neg hc8)).trans (if_neg hc9)).trans (if_neg hc10)).trans (if_neg hc11)).trans (if_neg hc12)).trans (if_pos hc13))
                  · refine k_iconst X0 hx (v := (0 : Int32)) rfl (q := 112) rfl (hb hby d2_111) ?_
                    exact k_retN X0 hx (t := .boolean) hlk (by decide) (by decide) hret (by simp) (hb hby d2_112) ⟨retI_eq ((((((((((rfl : f2 x0 x1 = _).trans (if_neg hc5)).trans (if_neg hc6)).trans (if_neg hc7)).trans (if_neg hc8)).trans (if_neg hc9)).trans (if_neg hc10)).trans (if_neg hc11)).trans (if_neg hc12)).trans (if_neg hc13)), N0, e0⟩
              · refine k_iloadN X0 hx (q := 60) rfl (hb hby d2_59) rfl ?_
                refine k_sipush X0 hx (v := (8208 : Int32)) rfl (q := 63) rfl (hb hby d2_60) ?_
                refine k_icmp_lt X0 hx (q1 := 75) (q := 66) (by decide) (by decide) rfl (hb hby d2_63) (fun hc14 => ?_) (fun hc14 => ?_)
                · exact K75 _ _ X0 e0 N0 x0 x1 (((((((((rfl : f2 x0 x1 = _).trans (if_neg hc5)).trans (if_neg hc6)).trans (if_neg hc7)).trans (if_neg hc8)).trans (if_neg hc9)).trans (if_neg hc10)).trans (if_pos hc11)).trans (if_pos hc14))
                · refine k_iloadN X0 hx (q := 67) rfl (hb hby d2_66) rfl ?_
                  refine k_sipush X0 hx (v := (8231 : Int32)) rfl (q := 70) rfl (hb hby d2_67) ?_
                  refine k_icmp_gt X0 hx (q1 := 75) (q := 73) (by decide) (by decide) rfl (hb hby d2_70) (fun hc15 => ?_) (fun hc15 => ?_)
                  · exact K75 _ _ X0 e0 N0 x0 x1 ((((((((((rfl : f2 x0 x1 = _).trans (if_neg hc5)).trans (if_neg hc6)).trans (if_neg hc7)).trans (if_neg hc8)).trans (if_neg hc9)).trans (if_neg hc10)).trans (if_pos hc11)).trans (if_neg hc14)).trans (if_pos hc15))
                  · refine k_iconst X0 hx (v := (1 : Int32)) rfl (q := 74) rfl (hb hby d2_73) ?_
                    exact k_retN X0 hx (t := .boolean) hlk (by decide) (by decide) hret (by simp) (hb hby d2_74) ⟨retI_eq ((((((((((rfl : f2 x0 x1 = _).trans (if_neg hc5)).trans (if_neg hc6)).trans (if_neg hc7)).trans (if_neg hc8)).trans (if_neg hc9)).trans (if_neg hc10)).trans (if_pos hc11)).trans (if_neg hc14)).trans (if_neg hc15)), N0, e0⟩
            · refine k_iconst X0 hx (v := (1 : Int32)) rfl (q := 51) rfl (hb hby d2_50) ?_
              exact k_retN X0 hx (t := .boolean) hlk (by decide) (by decide) hret (by simp) (hb hby d2_51) ⟨retI_eq (((((((rfl : f2 x0 x1 = _).trans (if_neg hc5)).trans (if_neg hc6)).trans (if_neg hc7)).trans (if_neg hc8)).trans (if_neg hc9)).trans (if_pos hc10)), N0, e0⟩
          · refine k_iloadN X0 hx (q := 42) rfl (hb hby d2_41) rfl ?_
            exact k_retN X0 hx (t := .boolean) hlk (by decide) (by decide) hret (by simp) (hb hby d2_42) ⟨retI_eq ((((((rfl : f2 x0 x1 = _).trans (if_neg hc5)).trans (if_neg hc6)).trans (if_neg hc7)).trans (if_neg hc8)).trans (if_pos hc9)), N0, e0⟩
        · refine k_iconst X0 hx (v := (0 : Int32)) rfl (q := 33) rfl (hb hby d2_32) ?_
          exact k_retN X0 hx (t := .boolean) hlk (by decide) (by decide) hret (by simp) (hb hby d2_33) ⟨retI_eq (((((rfl : f2 x0 x1 = _).trans (if_neg hc5)).trans (if_neg hc6)).trans (if_neg hc7)).trans (if_pos hc8)), N0, e0⟩
      · refine k_iloadN X0 hx (q := 20) rfl (hb hby d2_19) rfl ?_
        refine k_iloadN X0 hx (q := 21) rfl (hb hby d2_20) rfl ?_
        refine k_callS X0 hx hZ (y := (⟨"com/example/bones_of_bytecode/bonesofbytecode/IdTablesSimpleNameUnitPinLaw", "ascii", "(IZ)Z"⟩ : MethodName)) hown (hw _ (List.mem_of_getElem? (i := 10) rfl)) (hw _ (List.mem_of_getElem? (i := 11) rfl)) (hw _ (List.mem_of_getElem? (i := 7) rfl)) (hw _ (List.mem_of_getElem? (i := 12) rfl)) (by decide) 0 e0 (rm3 l Z a0 hw x0 x1 h0 n0) (by decide) (by decide) (by decide) (by decide) (by rw [hml]; rfl) (as := [(.int x0), (.int x1)]) (rest := []) pd_0 rfl (by first | exact Nat.le_refl _ | simp [Value.category]) (q := 24) rfl (hb hby d2_21) ?_
        rintro _ T16 L16 X16 ⟨rfl, N16q, e16⟩
        have N16 := Fr.app N0 N16q
        show End _ _ _ _ _ _ _ (T16.setTop (mkF m 24 #[.val (.int x0), .val (.int x1)] [(.int (f3 x0 x1))]))
        exact k_retN X16 hx (t := .boolean) hlk (by decide) (by decide) hret (by simp) (hb hby d2_24) ⟨retI_eq ((((rfl : f2 x0 x1 = _).trans (if_neg hc5)).trans (if_neg hc6)).trans (if_pos hc7)), N16, e16⟩
    · refine k_iconst X0 hx (v := (0 : Int32)) rfl (q := 11) rfl (hb hby d2_10) ?_
      exact k_retN X0 hx (t := .boolean) hlk (by decide) (by decide) hret (by simp) (hb hby d2_11) ⟨retI_eq (((rfl : f2 x0 x1 = _).trans (if_neg hc5)).trans (if_pos hc6)), N0, e0⟩
theorem ef_0 (m : MethodId) (x0 : Int32) (x1 : Int32) : entryFrame m #[(.int x0), (.int x1)] maxLocals = mkF m 0 #[.val (.int x0), .val (.int x1), .unset, .unset] [] := by first | (simp [entryFrame, mkF, argsToLocals, Value.category, maxLocals]; done) | rfl
def f0_26 (y0 : Int32) (y1 : Int32) (y2 : Int32) (z0 : Int32) : Int32 := (if (f1 z0 y2) = (f2 z0 y2) then (1 : Int32) else (0 : Int32))
def f0_11 (y0 : Int32) (y1 : Int32) (z0 : Int32) : Int32 := (if (y1 &&& (2 : Int32)) = (0 : Int32) then (f0_26 y0 y1 z0 (y0 &&& (65535 : Int32))) else (f0_26 y0 y1 z0 y0))
def f0 (x0 : Int32) (x1 : Int32) : Int32 := (if (x1 &&& (1 : Int32)) = (0 : Int32) then (f0_11 x0 x1 (0 : Int32)) else (f0_11 x0 x1 (1 : Int32)))
set_option maxRecDepth 65536 in
set_option maxHeartbeats 40000000 in
theorem rm0 (l : Launch) (Z : State) (a0 : Array Value) (hw : ∀ d ∈ tables_1, d.before a0 Z = true) (x0 : Int32) (x1 : Int32) (h0 : Heap) (n0 : Nat) :
    Con l Z x code maxLocals ret tables_1 room_1 #[(.int x0), (.int x1)] h0 (fun v h L => v = some (.int (f0 x0 x1)) ∧ Fr n0 L ∧ h = h0) := by
  refine Con.of pn_0 ?_
  intro p e s m below meth c s₁ X0 hx hby hml hown hnm hret hlk hZ e0
  refine End.cast ?_ (ef_0 m x0 x1)
  have N0 := Fr.nil n0
  have K26 : ∀ (T : State) (locs : List Loc), Stand p l e room_1 s m #[(.int x0), (.int x1)] below meth c T locs 0 0 → T.heap = h0 → Fr n0 locs → ∀ (y0 : Int32) (y1 : Int32) (y2 : Int32) (z0 : Int32), f0 x0 x1 = f0_26 y0 y1 y2 z0 → End p e below s (fun v h L => v = some (.int (f0 x0 x1)) ∧ Fr n0 L ∧ h = h0) room_1.cells room_1.slots (T.setTop (mkF m 26 #[.val (.int y0), .val (.int y1), .val (.int y2), .unset] [(.int z0)])) := by
    intro T locs X eT NT y0 y1 y2 z0 hf
    refine k_istoreN X hx (L' := #[.val (.int y0), .val (.int y1), .val (.int y2), .val (.int z0)]) (q := 27) rfl (hb hby at_26) rfl ?_
    refine k_iloadN X hx (q := 28) rfl (hb hby at_27) rfl ?_
    refine k_iloadN X hx (q := 29) rfl (hb hby at_28) rfl ?_
    refine k_callS X hx hZ (y := (⟨"com/example/bones_of_bytecode/bonesofbytecode/IdTables", "simpleNameUnit", "(IZ)Z"⟩ : MethodName)) hown (hw _ (List.mem_of_getElem? (i := 0) rfl)) (hw _ (List.mem_of_getElem? (i := 1) rfl)) (hw _ (List.mem_of_getElem? (i := 2) rfl)) (hw _ (List.mem_of_getElem? (i := 3) rfl)) (by decide) 0 eT (rm1 l Z a0 hw z0 y2 h0 n0) (by decide) (by decide) (by decide) (by decide) (by rw [hml]; rfl) (as := [(.int z0), (.int y2)]) (rest := []) pd_0 rfl (by first | exact Nat.le_refl _ | simp [Value.category]) (q := 32) rfl (hb hby at_29) ?_
    rintro _ T1 L1 X1 ⟨rfl, N1q, e1⟩
    have N1 := Fr.app NT N1q
    show End _ _ _ _ _ _ _ (T1.setTop (mkF m 32 #[.val (.int y0), .val (.int y1), .val (.int y2), .val (.int z0)] [(.int (f1 z0 y2))]))
    refine k_iloadN X1 hx (q := 33) rfl (hb hby at_32) rfl ?_
    refine k_iloadN X1 hx (q := 34) rfl (hb hby at_33) rfl ?_
    refine k_callS X1 hx hZ (y := (⟨"com/example/bones_of_bytecode/bonesofbytecode/IdTablesSimpleNameUnitPinLaw", "reference", "(IZ)Z"⟩ : MethodName)) hown (hw _ (List.mem_of_getElem? (i := 5) rfl)) (hw _ (List.mem_of_getElem? (i := 6) rfl)) (hw _ (List.mem_of_getElem? (i := 7) rfl)) (hw _ (List.mem_of_getElem? (i := 8) rfl)) (by decide) 1 e1 (rm2 l Z a0 hw z0 y2 h0 n0) (by decide) (by decide) (by decide) (by decide) (by rw [hml]; rfl) (as := [(.int z0), (.int y2)]) (rest := [(.int (f1 z0 y2))]) pd_0 rfl (by first | exact Nat.le_refl _ | simp [Value.category]) (q := 37) rfl (hb hby at_34) ?_
    rintro _ T2 L2 X2 ⟨rfl, N2q, e2⟩
    have N2 := Fr.app N1 N2q
    show End _ _ _ _ _ _ _ (T2.setTop (mkF m 37 #[.val (.int y0), .val (.int y1), .val (.int y2), .val (.int z0)] [(.int (f2 z0 y2)), (.int (f1 z0 y2))]))
    refine k_icmp_ne X2 hx (q1 := 44) (q := 40) (by decide) (by decide) rfl (hb hby at_37) (fun hc3 => ?_) (fun hc3 => ?_)
    · refine k_iconst X2 hx (v := (0 : Int32)) rfl (q := 45) rfl (hb hby at_44) ?_
      exact k_retN X2 hx (t := .boolean) hlk (by decide) (by decide) hret (by simp) (hb hby at_45) ⟨retI_eq (hf.trans (if_neg hc3)), N2, e2⟩
    · refine k_iconst X2 hx (v := (1 : Int32)) rfl (q := 41) rfl (hb hby at_40) ?_
      refine k_goto X2 hx (q := 45) (by decide) (by decide) (hb hby at_41) ?_
      exact k_retN X2 hx (t := .boolean) hlk (by decide) (by decide) hret (by simp) (hb hby at_45) ⟨retI_eq (hf.trans (if_pos hc3)), N2, e2⟩
  have K11 : ∀ (T : State) (locs : List Loc), Stand p l e room_1 s m #[(.int x0), (.int x1)] below meth c T locs 0 0 → T.heap = h0 → Fr n0 locs → ∀ (y0 : Int32) (y1 : Int32) (z0 : Int32), f0 x0 x1 = f0_11 y0 y1 z0 → End p e below s (fun v h L => v = some (.int (f0 x0 x1)) ∧ Fr n0 L ∧ h = h0) room_1.cells room_1.slots (T.setTop (mkF m 11 #[.val (.int y0), .val (.int y1), .unset, .unset] [(.int z0)])) := by
    intro T locs X eT NT y0 y1 z0 hf
    refine k_istoreN X hx (L' := #[.val (.int y0), .val (.int y1), .val (.int z0), .unset]) (q := 12) rfl (hb hby at_11) rfl ?_
    refine k_iloadN X hx (q := 13) rfl (hb hby at_12) rfl ?_
    refine k_iconst X hx (v := (2 : Int32)) rfl (q := 14) rfl (hb hby at_13) ?_
    refine k_iand X hx (q := 15) rfl (hb hby at_14) ?_
    refine k_if_eq X hx (q1 := 22) (q := 18) (by decide) (by decide) rfl (hb hby at_15) (fun hc4 => ?_) (fun hc4 => ?_)
    · refine k_iloadN X hx (q := 23) rfl (hb hby at_22) rfl ?_
      refine k_ldcI X hx hZ (v := (65535 : Int32)) hown (hw _ (List.mem_of_getElem? (i := 9) rfl)) (q := 25) rfl (hb hby at_23) ?_
      refine k_iand X hx (q := 26) rfl (hb hby at_25) ?_
      exact K26 _ _ X eT NT y0 y1 z0 (y0 &&& (65535 : Int32)) (hf.trans (if_pos hc4))
    · refine k_iloadN X hx (q := 19) rfl (hb hby at_18) rfl ?_
      refine k_goto X hx (q := 26) (by decide) (by decide) (hb hby at_19) ?_
      exact K26 _ _ X eT NT y0 y1 z0 y0 (hf.trans (if_neg hc4))
  refine k_iloadN X0 hx (q := 1) rfl (hb hby at_0) rfl ?_
  refine k_iconst X0 hx (v := (1 : Int32)) rfl (q := 2) rfl (hb hby at_1) ?_
  refine k_iand X0 hx (q := 3) rfl (hb hby at_2) ?_
  refine k_if_eq X0 hx (q1 := 10) (q := 6) (by decide) (by decide) rfl (hb hby at_3) (fun hc5 => ?_) (fun hc5 => ?_)
  · refine k_iconst X0 hx (v := (0 : Int32)) rfl (q := 11) rfl (hb hby at_10) ?_
    exact K11 _ _ X0 e0 N0 x0 x1 (0 : Int32) ((rfl : f0 x0 x1 = _).trans (if_pos hc5))
  · refine k_iconst X0 hx (v := (1 : Int32)) rfl (q := 7) rfl (hb hby at_6) ?_
    refine k_goto X0 hx (q := 11) (by decide) (by decide) (hb hby at_7) ?_
    exact K11 _ _ X0 e0 N0 x0 x1 (1 : Int32) ((rfl : f0 x0 x1 = _).trans (if_neg hc5))
theorem own_c0 : (0 : Int32).toInt = 0 := by decide
theorem own_c32 : (32 : Int32).toInt = 32 := by decide
theorem own_c36 : (36 : Int32).toInt = 36 := by decide
theorem own_c45 : (45 : Int32).toInt = 45 := by decide
theorem own_c48 : (48 : Int32).toInt = 48 := by decide
theorem own_c57 : (57 : Int32).toInt = 57 := by decide
theorem own_c65 : (65 : Int32).toInt = 65 := by decide
theorem own_c90 : (90 : Int32).toInt = 90 := by decide
theorem own_c95 : (95 : Int32).toInt = 95 := by decide
theorem own_c97 : (97 : Int32).toInt = 97 := by decide
theorem own_c122 : (122 : Int32).toInt = 122 := by decide
theorem own_c128 : (128 : Int32).toInt = 128 := by decide
theorem own_c160 : (160 : Int32).toInt = 160 := by decide
theorem own_c161 : (161 : Int32).toInt = 161 := by decide
theorem own_c8191 : (8191 : Int32).toInt = 8191 := by decide
theorem own_c8192 : (8192 : Int32).toInt = 8192 := by decide
theorem own_c8202 : (8202 : Int32).toInt = 8202 := by decide
theorem own_c8208 : (8208 : Int32).toInt = 8208 := by decide
theorem own_c8231 : (8231 : Int32).toInt = 8231 := by decide
theorem own_c8239 : (8239 : Int32).toInt = 8239 := by decide
theorem own_c8240 : (8240 : Int32).toInt = 8240 := by decide
theorem own_c55295 : (55295 : Int32).toInt = 55295 := by decide
theorem own_c55296 : (55296 : Int32).toInt = 55296 := by decide
theorem own_c57343 : (57343 : Int32).toInt = 57343 := by decide
theorem own_c57344 : (57344 : Int32).toInt = 57344 := by decide
theorem own_c65519 : (65519 : Int32).toInt = 65519 := by decide
theorem own_c65520 : (65520 : Int32).toInt = 65520 := by decide
theorem own_c65535 : (65535 : Int32).toInt = 65535 := by decide
theorem own_m {p q : Prop} [Decidable p] [Decidable q] {A B : Int32} : (if p then A else if q then A else B) = if p ∨ q then A else B := by
  by_cases hp : p
  · rw [if_pos hp, if_pos (Or.inl hp)]
  · by_cases hq : q
    · rw [if_neg hp, if_pos hq, if_pos (Or.inr hq)]
    · rw [if_neg hp, if_neg hq, if_neg (fun h => h.elim hp hq)]
theorem own_ascii : ∀ n : Fin 128, f1 (Int32.ofNat n) 0 = f2 (Int32.ofNat n) 0 ∧ f1 (Int32.ofNat n) 1 = f2 (Int32.ofNat n) 1 := by decide +kernel
theorem own_in {u : Int32} (h0 : ¬ u < 0) (h1 : u < 128) : ∃ n : Fin 128, u = Int32.ofNat n := by
  rw [Int32.lt_iff_toInt_lt] at h0 h1
  rw [own_c0] at h0
  rw [own_c128] at h1
  refine ⟨⟨u.toInt.toNat, by omega⟩, ?_⟩
  rw [← Int32.toInt_inj, Int32.toInt_ofNat_of_lt (by show u.toInt.toNat < 2 ^ 31; omega)]
  show u.toInt = (u.toInt.toNat : Int)
  omega
theorem own_s0 : (nar .boolean 0) = 0 := by decide
theorem own_s1 : (nar .boolean 1) = 1 := by decide
set_option maxHeartbeats 4000000 in
theorem own_both {s : Int32} (hs : s = 0 ∨ s = 1) (u : Int32) : f1 u s = f2 u s := by
  by_cases h0 : u < 0
  · have e2 : f2 u s = 0 := by unfold f2; rw [if_pos h0]
    rw [e2]
    rw [Int32.lt_iff_toInt_lt, own_c0] at h0
    unfold f1 f1_12 f1_24 f1_36 f1_68 f1_82 f1_96 f1_110 f1_141
    simp only [own_m]
    simp only [Int32.lt_iff_toInt_lt, ← Int32.toInt_inj (x := u), own_c0, own_c32, own_c36, own_c45, own_c48, own_c57, own_c65, own_c90, own_c95, own_c97, own_c122, own_c128, own_c160, own_c161, own_c8191, own_c8192, own_c8202, own_c8208, own_c8231, own_c8239, own_c8240, own_c55295, own_c55296, own_c57343, own_c57344, own_c65519, own_c65520, own_c65535]
    repeat' split
    all_goals first | rfl | (exfalso; omega)
  by_cases h1 : u < 128
  · obtain ⟨n, rfl⟩ := own_in h0 h1
    rcases hs with rfl | rfl
    · exact (own_ascii n).1
    · exact (own_ascii n).2
  · have e2 : f2 u s = (if (65535 : Int32) < u then (0 : Int32) else (if u < (160 : Int32) then (0 : Int32) else (if u = (160 : Int32) then (nar .boolean s) else (if u < (8192 : Int32) then (1 : Int32) else (if u < (8240 : Int32) then (if u < (8208 : Int32) then (f2_75 u s) else (if (8231 : Int32) < u then (f2_75 u s) else (1 : Int32))) else (if u < (55296 : Int32) then (f2_113 u s) else (if (57343 : Int32) < u then (f2_113 u s) else (0 : Int32)))))))) := by
      unfold f2; rw [if_neg h0, if_neg h1]
    rw [e2]
    rw [Int32.lt_iff_toInt_lt] at h0 h1
    rw [own_c0] at h0
    rw [own_c128] at h1
    unfold f1 f1_12 f1_24 f1_36 f1_68 f1_82 f1_96 f1_110 f1_141 f2_75 f2_113
    simp only [own_m]
    rcases hs with rfl | rfl
    · simp only [own_s0, Int32.lt_iff_toInt_lt, ← Int32.toInt_inj (x := u), own_c0, own_c32, own_c36, own_c45, own_c48, own_c57, own_c65, own_c90, own_c95, own_c97, own_c122, own_c128, own_c160, own_c161, own_c8191, own_c8192, own_c8202, own_c8208, own_c8231, own_c8239, own_c8240, own_c55295, own_c55296, own_c57343, own_c57344, own_c65519, own_c65520, own_c65535, if_true]
      repeat' split
      all_goals first | rfl | (exfalso; omega)
    · simp only [own_s1, Int32.lt_iff_toInt_lt, ← Int32.toInt_inj (x := u), own_c0, own_c32, own_c36, own_c45, own_c48, own_c57, own_c65, own_c90, own_c95, own_c97, own_c122, own_c128, own_c160, own_c161, own_c8191, own_c8192, own_c8202, own_c8208, own_c8231, own_c8239, own_c8240, own_c55295, own_c55296, own_c57343, own_c57344, own_c65519, own_c65520, own_c65535, if_neg (by decide : ¬ (1 : Int32) = 0)]
      repeat' split
      all_goals first | rfl | (exfalso; omega)
theorem own_law (x0 x1 : Int32) : f0 x0 x1 = 1 := by
  have k : ∀ y0 y1 y2 z0, (y2 = 0 ∨ y2 = 1) → f0_26 y0 y1 y2 z0 = 1 := fun y0 y1 y2 z0 h => by
    unfold f0_26; rw [if_pos (own_both h _)]
  have k2 : ∀ y0 y1 z0, (z0 = 0 ∨ z0 = 1) → f0_11 y0 y1 z0 = 1 := fun y0 y1 z0 h => by
    unfold f0_11; rw [k _ _ _ _ h, k _ _ _ _ h, ite_self]
  unfold f0
  rw [k2 _ _ _ (Or.inl rfl), k2 _ _ _ (Or.inr rfl), ite_self]
theorem rmL (l : Launch) (Z : State) (a0 : Array Value) (hw : ∀ d ∈ tables_1, d.before a0 Z = true) (x0 : Int32) (x1 : Int32) (h0 : Heap) (n0 : Nat) : Con l Z x code maxLocals ret tables_1 room_1 #[(.int x0), (.int x1)] h0 (fun v h L => v = some (.int 1) ∧ Fr n0 L) :=
  (rm0 l Z a0 hw x0 x1 h0 n0).mono fun v h L q => ⟨by rw [q.1, own_law], q.2.1⟩
set_option maxRecDepth 65536 in
set_option maxHeartbeats 40000000 in
theorem comes_1 {Post : Tables → Env → Array Value → State → Outcome → State → Prop} (hpost : ∀ tb e args s v u, (limb_1_1.after args s (.returned v) u = true ∧ limb_1_2.after args s (.returned v) u = true ∧ True) → FrameEnd s (.returned v) u (Jvm.fieldLocs frame_1_writes args s ++ Jvm.arrayLocs frame_1_arrays args s ++ Jvm.staticLocs frame_1_statics s) 0 0 → Post tb e args s (.returned v) u) :
    ArmFor flags0 classFile x code maxLocals ret World_1 tables_1 room_1 Calls_1 rest_1 Pre_1 Post := by
  intro l hfl _ _ p e ha hc hk s m args below hf hA hF happ hP
  obtain ⟨hcalls, hrest, hpre⟩ := hP
  obtain ⟨-, -, -, hnamed, -, -, -, hat⟩ := (Spec.applies_iff hf).mp happ
  obtain ⟨hg, hn⟩ := and_e (Cond.before_iff.mp (show (Jvm.Cond.and given_1 narrow_1).before args s = true from hpre))
  obtain ⟨gc, g0⟩ := and_e hg
  obtain ⟨a0, g1⟩ := and_e g0
  obtain ⟨w0, w1, rfl⟩ : ∃ w0 w1 : Value, args = #[w0, w1] := by
    have hs : args.size = 2 := by simpa [Cond.value, given_1] using gc
    obtain ⟨L⟩ := args
    match L, hs with
    | [w0, w1], _ => exact ⟨w0, w1, rfl⟩
  have hw := fun d (hd : d ∈ tables_1) => atoms_spec (ws := Jvm.Cond.code x code maxLocals ret :: tables_1) hat d (List.mem_cons_of_mem _ hd)
  have hfit : Fit s := fun {y c} hc i hi => by
    obtain ⟨ha, rfl⟩ := Array.getElem?_eq_some_iff.mp hc
    have q := List.all_eq_true.mp ((Array.all_eq_true_iff_forall_mem.mp hF) _ (Array.getElem_mem ha)) i (List.mem_range.mpr hi)
    simpa [Array.getElem?_eq_getElem hi] using q
  obtain ⟨i0, ei0⟩ := is_v a0
  obtain rfl : w0 = (.int i0) := Option.some.inj ei0
  obtain ⟨i1, ei1⟩ := is_v g1
  obtain rfl : w1 = (.int i1) := Option.some.inj ei1
  obtain ⟨n, o, h1, h2, h3, _, L, rfl, ⟨rfl, N⟩, hq⟩ := rmL l s _ hw i0 i1 s.heap s.heap.size p e ha hc hk s m _ below hf ((Spec.applies_iff_loose hf).mp happ).1 ⟨rfl, State.Warmed39.refl s, rfl⟩ trivial
  refine ⟨n, _, h1, h2, h3, hpost _ _ _ _ _ _ ⟨Cond.after_iff.mpr rfl, Cond.after_iff.mpr (eq_i res_at (Term.int_eval (1)) rfl), trivial⟩ ⟨hq.1, hq.2.1, (hq.2.2.sift fun y hy => Or.inr (N y hy)).mono (by decide) (by decide)⟩⟩
theorem main_1_1 : Claimed_1_1 := comes_1 fun _ _ _ _ _ _ h hF => ⟨h.1, hF⟩
theorem main_1_2 : Claimed_1_2 := comes_1 fun _ _ _ _ _ _ h hF => ⟨h.2.1, hF⟩
end Jvm.Pilot.@@N@@
namespace Jvm.Pilot.@@N@@
open Jvm Jvm.ClassFile Sem Op Lib Jvm.Free Jvm.Stand Jvm.Pilot.@@N@@.Jvm.D
/-! MADE BY PROGRAM (witnessworld.py) out of the Statement's table words and the real class files: 9 classes; the members and pool entries that the words name. The judged class is class 1, her method 3. -/
namespace start1
open Jvm.ClassFile
def u (s : String) : CpInfo := .utf8 (stringToUtf16 s)
/-- a pool by its gaps: so many unusable entries, then the entry; so many at the end -/
def gap : Nat → List CpInfo → List CpInfo
  | 0, r => r
  | n + 1, r => .unusable :: gap n r
def poolList (es : List (Nat × CpInfo)) (last : Nat) : List CpInfo := es.foldr (fun e r => gap e.1 (e.2 :: r)) (gap last [])
def pool (es : List (Nat × CpInfo)) (last : Nat) : Array CpInfo := ⟨poolList es last⟩
def fileOf (pool : Array CpInfo) (this : Nat) (attrs : Array Attribute := #[]) (ms : Array MethodInfo := #[]) (fl : Nat := 33) (sup : Nat := 0) (ifs : Array Nat := #[]) (fds : Array FieldInfo := #[]) : ClassFile where
  minorVersion := 0
  majorVersion := 65
  constantPool := pool
  accessFlags := fl
  thisClass := this
  superClass := sup
  interfaces := ifs
  fields := fds
  methods := ms
  attributes := attrs
def plain (name : String) (sup : Option ClassId) : Class where
  name := name
  kind := .ordinary
  loader := none
  accessFlags := 33
  super := sup
  interfaces := #[]
  cf := none
  fields := #[]
  methods := #[]
  instanceTypes := #[]
  staticTypes := #[]
  resolved := #[]
  callSites := []
  init := .initialized
  statics := none
  mirror := none

def pool0 : Array CpInfo := pool [(5, u "<init>"), (0, u "()V"), (1, .class_ 10), (1, u "java/lang/Object")] 113

def k0m0 : Method := { name := "<init>", desc := "()V", sig := { parameters := [], returnType := none }, accessFlags := 1, code := none }
/-- java/lang/Object -/
def k0 : Class := { plain "java/lang/Object" none with
  accessFlags := 33
  interfaces := #[]
  cf := some (fileOf pool0 8 #[] #[{ accessFlags := 1, nameIndex := 5, descriptorIndex := 6, attributes := #[] }] 33 0 #[] #[])
  fields := #[]
  methods := #[k0m0]
  instanceTypes := #[]
  staticTypes := #[]
  resolved := Array.replicate 124 none
  statics := none }

def pool1 : Array CpInfo := pool [(2, .class_ 4), (1, u "java/lang/Object"), (0, u "<init>"), (0, u "()V"), (0, .integer 65535), (0, .methodref 9 10), (0, .class_ 11), (0, .nameAndType 12 13), (0, u "com/example/bones_of_bytecode/bonesofbytecode/IdTablesSimpleNameUnitPinLaw"), (0, u "ascii"), (0, u "(IZ)Z"), (0, .integer 55296), (0, .integer 57343), (0, .integer 65520), (0, .methodref 18 19), (0, .class_ 20), (0, .nameAndType 21 13), (0, u "com/example/bones_of_bytecode/bonesofbytecode/IdTables"), (0, u "simpleNameUnit"), (0, .methodref 9 23), (0, .nameAndType 24 13), (0, u "reference"), (3, u "law"), (0, u "(II)Z")] 2

def k1m0 : Method := { name := "<init>", desc := "()V", sig := { parameters := [], returnType := none }, accessFlags := 2, code := none }
def k1c1 : Code := { maxStack := 2, maxLocals := 3, code := method_2_code, exceptionTable := #[], attributes := #[] }
def k1m1 : Method := { name := "ascii", desc := "(IZ)Z", sig := { parameters := [.int, .boolean], returnType := some .boolean }, accessFlags := 10, code := some k1c1 }
def k1c2 : Code := { maxStack := 2, maxLocals := 2, code := method_3_code, exceptionTable := #[], attributes := #[] }
def k1m2 : Method := { name := "reference", desc := "(IZ)Z", sig := { parameters := [.int, .boolean], returnType := some .boolean }, accessFlags := 10, code := some k1c2 }
def k1c3 : Code := { maxStack := 3, maxLocals := 4, code := code, exceptionTable := #[], attributes := #[] }
def k1m3 : Method := { name := "law", desc := "(II)Z", sig := { parameters := [.int, .int], returnType := some .boolean }, accessFlags := 9, code := some k1c3 }
/-- com/example/bones_of_bytecode/bonesofbytecode/IdTablesSimpleNameUnitPinLaw -/
def k1 : Class := { plain "com/example/bones_of_bytecode/bonesofbytecode/IdTablesSimpleNameUnitPinLaw" (some 0) with
  accessFlags := 49
  interfaces := #[]
  cf := some (fileOf pool1 9 #[] #[{ accessFlags := 2, nameIndex := 5, descriptorIndex := 6, attributes := #[] }, { accessFlags := 10, nameIndex := 12, descriptorIndex := 13, attributes := #[] }, { accessFlags := 10, nameIndex := 24, descriptorIndex := 13, attributes := #[] }, { accessFlags := 9, nameIndex := 28, descriptorIndex := 29, attributes := #[] }] 49 2 #[] #[])
  fields := #[]
  methods := #[k1m0, k1m1, k1m2, k1m3]
  instanceTypes := #[]
  staticTypes := #[]
  resolved := Array.replicate 32 none
  statics := none }

def pool2 : Array CpInfo := pool [(2, .class_ 4), (1, u "java/lang/Object"), (6, .class_ 13), (1, u "com/example/bones_of_bytecode/bonesofbytecode/IdTables"), (0, u "names"), (0, u "Ljava/util/BitSet;"), (2, u "file"), (0, u "Lcom/example/bones_of_bytecode/bonesofbytecode/DexBytes;"), (2, u "pools"), (0, u "Lcom/example/bones_of_bytecode/bonesofbytecode/Pools;"), (14, u "strings"), (0, u "Lcom/example/bones_of_bytecode/bonesofbytecode/Table$Section;"), (11, u "types"), (0, u "J"), (5, u "prototypes"), (5, u "fields"), (5, u "methods"), (2, u "kinds"), (0, u "[B"), (10, u "earlier"), (0, u "Lcom/example/bones_of_bytecode/bonesofbytecode/DexBytes$Cursor;"), (2, u "later"), (8, u "spaces"), (0, u "Z"), (7, u "ids"), (0, u "Lcom/example/bones_of_bytecode/bonesofbytecode/Window;"), (2, u "stringIds"), (0, .class_ 113), (0, u "com/example/bones_of_bytecode/bonesofbytecode/IdTables$Piece"), (5, u "earlierPiece"), (0, u "Lcom/example/bones_of_bytecode/bonesofbytecode/IdTables$Piece;"), (2, u "laterPiece"), (53, u "I"), (101, .class_ 281), (1, u "com/example/bones_of_bytecode/bonesofbytecode/IdTables$Fault"), (184, u "simpleNameUnit"), (0, u "(IZ)Z"), (0, .integer 55295), (0, .integer 57344), (0, .integer 65519), (30, u "FILE"), (0, u "Lcom/example/bones_of_bytecode/bonesofbytecode/DexFormatException$Scope;"), (16, u "SPACES_IN_NAMES"), (2, u "PRIMITIVES"), (0, u "Ljava/lang/String;"), (0, u "MOST_DIMENSIONS"), (1, u "PIECE")] 37

def k2c0 : Code := { maxStack := 2, maxLocals := 2, code := prog_74_method_28_code, exceptionTable := #[], attributes := #[] }
def k2m0 : Method := { name := "simpleNameUnit", desc := "(IZ)Z", sig := { parameters := [.int, .boolean], returnType := some .boolean }, accessFlags := 8, code := some k2c0 }
/-- com/example/bones_of_bytecode/bonesofbytecode/IdTables -/
def k2 : Class := { plain "com/example/bones_of_bytecode/bonesofbytecode/IdTables" (some 0) with
  accessFlags := 48
  interfaces := #[]
  cf := some (fileOf pool2 11 #[.nestMembers #[279, 112]] #[{ accessFlags := 8, nameIndex := 466, descriptorIndex := 467, attributes := #[] }] 48 2 #[] #[{ accessFlags := 26, nameIndex := 519, descriptorIndex := 177, attributes := #[] }, { accessFlags := 26, nameIndex := 501, descriptorIndex := 502, attributes := #[] }, { accessFlags := 26, nameIndex := 522, descriptorIndex := 523, attributes := #[] }, { accessFlags := 26, nameIndex := 524, descriptorIndex := 177, attributes := #[] }, { accessFlags := 26, nameIndex := 526, descriptorIndex := 177, attributes := #[] }, { accessFlags := 18, nameIndex := 18, descriptorIndex := 19, attributes := #[] }, { accessFlags := 18, nameIndex := 22, descriptorIndex := 23, attributes := #[] }, { accessFlags := 18, nameIndex := 38, descriptorIndex := 39, attributes := #[] }, { accessFlags := 18, nameIndex := 51, descriptorIndex := 52, attributes := #[] }, { accessFlags := 18, nameIndex := 58, descriptorIndex := 52, attributes := #[] }, { accessFlags := 18, nameIndex := 64, descriptorIndex := 52, attributes := #[] }, { accessFlags := 18, nameIndex := 70, descriptorIndex := 52, attributes := #[] }, { accessFlags := 18, nameIndex := 85, descriptorIndex := 86, attributes := #[] }, { accessFlags := 18, nameIndex := 89, descriptorIndex := 86, attributes := #[] }, { accessFlags := 18, nameIndex := 107, descriptorIndex := 108, attributes := #[] }, { accessFlags := 18, nameIndex := 111, descriptorIndex := 108, attributes := #[] }, { accessFlags := 18, nameIndex := 73, descriptorIndex := 74, attributes := #[] }, { accessFlags := 2, nameIndex := 119, descriptorIndex := 120, attributes := #[] }, { accessFlags := 2, nameIndex := 123, descriptorIndex := 120, attributes := #[] }, { accessFlags := 18, nameIndex := 14, descriptorIndex := 15, attributes := #[] }, { accessFlags := 18, nameIndex := 98, descriptorIndex := 99, attributes := #[] }])
  fields := #[{ name := "SPACES_IN_NAMES", type := .int, accessFlags := 26, slot := 0, constantValue := 0 }, { name := "FILE", type := (.object "com/example/bones_of_bytecode/bonesofbytecode/DexFormatException$Scope"), accessFlags := 26, slot := 1, constantValue := 0 }, { name := "PRIMITIVES", type := (.object "java/lang/String"), accessFlags := 26, slot := 2, constantValue := 0 }, { name := "MOST_DIMENSIONS", type := .int, accessFlags := 26, slot := 3, constantValue := 0 }, { name := "PIECE", type := .int, accessFlags := 26, slot := 4, constantValue := 0 }, { name := "file", type := (.object "com/example/bones_of_bytecode/bonesofbytecode/DexBytes"), accessFlags := 18, slot := 0, constantValue := 0 }, { name := "pools", type := (.object "com/example/bones_of_bytecode/bonesofbytecode/Pools"), accessFlags := 18, slot := 1, constantValue := 0 }, { name := "strings", type := (.object "com/example/bones_of_bytecode/bonesofbytecode/Table$Section"), accessFlags := 18, slot := 2, constantValue := 0 }, { name := "types", type := .long, accessFlags := 18, slot := 3, constantValue := 0 }, { name := "prototypes", type := .long, accessFlags := 18, slot := 4, constantValue := 0 }, { name := "fields", type := .long, accessFlags := 18, slot := 5, constantValue := 0 }, { name := "methods", type := .long, accessFlags := 18, slot := 6, constantValue := 0 }, { name := "earlier", type := (.object "com/example/bones_of_bytecode/bonesofbytecode/DexBytes$Cursor"), accessFlags := 18, slot := 7, constantValue := 0 }, { name := "later", type := (.object "com/example/bones_of_bytecode/bonesofbytecode/DexBytes$Cursor"), accessFlags := 18, slot := 8, constantValue := 0 }, { name := "ids", type := (.object "com/example/bones_of_bytecode/bonesofbytecode/Window"), accessFlags := 18, slot := 9, constantValue := 0 }, { name := "stringIds", type := (.object "com/example/bones_of_bytecode/bonesofbytecode/Window"), accessFlags := 18, slot := 10, constantValue := 0 }, { name := "kinds", type := (.array .byte), accessFlags := 18, slot := 11, constantValue := 0 }, { name := "earlierPiece", type := (.object "com/example/bones_of_bytecode/bonesofbytecode/IdTables$Piece"), accessFlags := 2, slot := 12, constantValue := 0 }, { name := "laterPiece", type := (.object "com/example/bones_of_bytecode/bonesofbytecode/IdTables$Piece"), accessFlags := 2, slot := 13, constantValue := 0 }, { name := "names", type := (.object "java/util/BitSet"), accessFlags := 18, slot := 14, constantValue := 0 }, { name := "spaces", type := .boolean, accessFlags := 18, slot := 15, constantValue := 0 }]
  methods := #[k2m0]
  instanceTypes := #[(.object "com/example/bones_of_bytecode/bonesofbytecode/DexBytes"), (.object "com/example/bones_of_bytecode/bonesofbytecode/Pools"), (.object "com/example/bones_of_bytecode/bonesofbytecode/Table$Section"), .long, .long, .long, .long, (.object "com/example/bones_of_bytecode/bonesofbytecode/DexBytes$Cursor"), (.object "com/example/bones_of_bytecode/bonesofbytecode/DexBytes$Cursor"), (.object "com/example/bones_of_bytecode/bonesofbytecode/Window"), (.object "com/example/bones_of_bytecode/bonesofbytecode/Window"), (.array .byte), (.object "com/example/bones_of_bytecode/bonesofbytecode/IdTables$Piece"), (.object "com/example/bones_of_bytecode/bonesofbytecode/IdTables$Piece"), (.object "java/util/BitSet"), .boolean]
  staticTypes := #[.int, (.object "com/example/bones_of_bytecode/bonesofbytecode/DexFormatException$Scope"), (.object "java/lang/String"), .int, .int]
  resolved := Array.replicate 564 none
  statics := none }

def pool3 : Array CpInfo := pool [(1, u "java/lang/Cloneable"), (0, .class_ 1), (0, u "java/lang/Object"), (0, .class_ 3)] 3

/-- java/lang/Cloneable -/
def k3 : Class := { plain "java/lang/Cloneable" (some 0) with
  accessFlags := 1537
  interfaces := #[]
  cf := some (fileOf pool3 2 #[] #[] 1537 4 #[] #[])
  fields := #[]
  methods := #[]
  instanceTypes := #[]
  staticTypes := #[]
  resolved := Array.replicate 8 none
  statics := none }

def pool4 : Array CpInfo := pool [(1, u "java/io/Serializable"), (0, .class_ 1), (0, u "java/lang/Object"), (0, .class_ 3)] 3

/-- java/io/Serializable -/
def k4 : Class := { plain "java/io/Serializable" (some 0) with
  accessFlags := 1537
  interfaces := #[]
  cf := some (fileOf pool4 2 #[] #[] 1537 4 #[] #[])
  fields := #[]
  methods := #[]
  instanceTypes := #[]
  staticTypes := #[]
  resolved := Array.replicate 8 none
  statics := none }

/-- the primitive byte -/
def k5 : Class := { plain "byte" none with kind := .primitive 'B', accessFlags := 0x411 }
/-- [B -/
def k6 : Class := { plain "[B" (some 0) with kind := .array 5 .byte, interfaces := #[3, 4], accessFlags := 1041 }

/-- the primitive int -/
def k7 : Class := { plain "int" none with kind := .primitive 'I', accessFlags := 0x411 }
/-- [I -/
def k8 : Class := { plain "[I" (some 0) with kind := .array 7 .int, interfaces := #[3, 4], accessFlags := 1041 }

def heap : Heap := #[]
def classes : Array Class := #[k0, k1, k2, k3, k4, k5, k6, k7, k8]
def interned : List (Array UInt16 × Addr) := []
def slotsUsed : Nat := 0
def theMethod : MethodId := ⟨1, 3⟩
def args0 : Array Value := #[.int 65, .int 1]
def aboutOver (below : List Frame) : State where
  vm := { classes := classes, interned := interned.toArray }
  heap := heap
  slotsUsed := slotsUsed
  threads := #[{ frames := .invoking theMethod args0 :: below }]
def below0 : List Frame := [.native { method := ⟨0, 0⟩, args := #[] }]
def about1 : State := aboutOver below0
def p0 : Program := .bare "" "" ""
def e0 : Env := launch0.env 0 0 0
theorem w_frames : about1.frames = Frame.invoking theMethod args0 :: below0 := rfl
set_option maxRecDepth 65536 in
theorem w_args : argsFit about1.vm theMethod args0 = true := by decide +kernel
set_option maxRecDepth 65536 in
theorem w_heap : heapFits about1 = true := by decide +kernel
set_option maxRecDepth 65536 in
theorem w_runnable : about1.curStatus? = some .runnable := by decide +kernel
set_option maxRecDepth 65536 in
theorem w_alone : about1.alone = true := by decide +kernel
set_option maxRecDepth 65536 in
theorem w_named : about1.methodNamed? x = some theMethod := by decide +kernel
set_option maxRecDepth 65536 in
theorem w_hears : about1.hears theMethod below0 = true := by decide +kernel
set_option maxRecDepth 65536 in
theorem w_ripe : about1.ripe theMethod args0 below0 = true := by decide +kernel
theorem w_running : about1.status = .running := rfl
set_option maxRecDepth 65536 in
theorem w_room : about1.hasRoom e0.platform room_1 = true :=
  launch0.hasRoom_least _ room_1 (by decide +kernel) (by decide +kernel) (by decide +kernel) (by decide +kernel) (by decide +kernel) (by decide +kernel)
theorem allAtoms_all (ts : List Jvm.Cond) (a : Array Jvm.Value) (st : Jvm.State) : (allAtoms ts).before a st = ts.all (fun c => c.before a st) := by
  induction ts with
  | nil => rfl
  | cons c t ih =>
    show (Jvm.Cond.and c (allAtoms t)).before a st = _
    rw [Jvm.Cond.before_and, ih, List.all_cons]
def words1 : List Jvm.Cond := Jvm.Cond.code x code maxLocals ret :: tables_1
/-- a 'code' word, met by the world's own term for the bytes: nothing is compared byte by byte -/
theorem code_word {y : MethodName} {bytes : ByteArray} {mx : Nat} {rt : Option FieldType} {a : Array Value} {s : State} {m : MethodId} {meth : Method} {c : Code} (h1 : s.methodNamed? y = some m) (h2 : s.vm.method? m = some meth) (h3 : meth.code = some c) (h4 : c.code = bytes)
    (h5 : (c.maxLocals == mx && c.exceptionTable.isEmpty && decide (c.maxStack ≤ mostOperands) && decide (meth.sig.returnType = rt) && !meth.locks && decide (parseMethodDescriptor y.desc = some meth.sig)) = true) : (Jvm.Cond.code y bytes mx rt).before a s = true := by
  simp only [Bool.and_eq_true, beq_iff_eq, Bool.not_eq_true', decide_eq_true_eq] at h5
  obtain ⟨⟨⟨⟨⟨g1, g2⟩, g3⟩, g4⟩, g5⟩, g6⟩ := h5
  simp [Cond.before, Cond.holds, Cond.value, h1, h2, h3, h4, g1, g2, g3, g4, g5, g6]
def isCode : Jvm.Cond → Bool
  | .code _ _ _ _ => true
  | _ => false
theorem all_split {L : List Jvm.Cond} {P : Jvm.Cond → Bool} (h1 : L.all (fun c => isCode c || P c) = true) (h2 : ∀ c ∈ L.filter isCode, P c = true) : L.all P = true := by
  refine List.all_eq_true.mpr fun c hc => ?_
  have h := List.all_eq_true.mp h1 c hc
  rcases Bool.eq_false_or_eq_true (isCode c) with hi | hi
  · exact h2 c (List.mem_filter.mpr ⟨hc, hi⟩)
  · simpa [hi] using h
set_option maxRecDepth 65536 in
theorem w_c0 : (Jvm.Cond.code x code maxLocals ret).before args0 about1 = true := code_word (m := ⟨1, 3⟩) (meth := k1m3) (c := k1c3) (by decide +kernel) rfl rfl rfl (by decide +kernel)
set_option maxRecDepth 65536 in
theorem w_c1 : (Jvm.Cond.code ({ cls := "com/example/bones_of_bytecode/bonesofbytecode/IdTables", name := "simpleNameUnit", desc := "(IZ)Z" } : Jvm.MethodName) prog_74_method_28_code (2 : Nat) (Option.some Jvm.ClassFile.FieldType.boolean)).before args0 about1 = true := code_word (m := ⟨2, 0⟩) (meth := k2m0) (c := k2c0) (by decide +kernel) rfl rfl rfl (by decide +kernel)
set_option maxRecDepth 65536 in
theorem w_c2 : (Jvm.Cond.code ({ cls := "com/example/bones_of_bytecode/bonesofbytecode/IdTablesSimpleNameUnitPinLaw", name := "reference", desc := "(IZ)Z" } : Jvm.MethodName) method_3_code (2 : Nat) (Option.some Jvm.ClassFile.FieldType.boolean)).before args0 about1 = true := code_word (m := ⟨1, 2⟩) (meth := k1m2) (c := k1c2) (by decide +kernel) rfl rfl rfl (by decide +kernel)
set_option maxRecDepth 65536 in
theorem w_c3 : (Jvm.Cond.code ({ cls := "com/example/bones_of_bytecode/bonesofbytecode/IdTablesSimpleNameUnitPinLaw", name := "ascii", desc := "(IZ)Z" } : Jvm.MethodName) method_2_code (3 : Nat) (Option.some Jvm.ClassFile.FieldType.boolean)).before args0 about1 = true := code_word (m := ⟨1, 1⟩) (meth := k1m1) (c := k1c1) (by decide +kernel) rfl rfl rfl (by decide +kernel)
def codes1 : List Jvm.Cond := [Jvm.Cond.code x code maxLocals ret, Jvm.Cond.code ({ cls := "com/example/bones_of_bytecode/bonesofbytecode/IdTables", name := "simpleNameUnit", desc := "(IZ)Z" } : Jvm.MethodName) prog_74_method_28_code (2 : Nat) (Option.some Jvm.ClassFile.FieldType.boolean), Jvm.Cond.code ({ cls := "com/example/bones_of_bytecode/bonesofbytecode/IdTablesSimpleNameUnitPinLaw", name := "reference", desc := "(IZ)Z" } : Jvm.MethodName) method_3_code (2 : Nat) (Option.some Jvm.ClassFile.FieldType.boolean), Jvm.Cond.code ({ cls := "com/example/bones_of_bytecode/bonesofbytecode/IdTablesSimpleNameUnitPinLaw", name := "ascii", desc := "(IZ)Z" } : Jvm.MethodName) method_2_code (3 : Nat) (Option.some Jvm.ClassFile.FieldType.boolean)]
set_option maxRecDepth 65536 in
theorem codes_eq : words1.filter isCode = codes1 := rfl
theorem w_codes : ∀ c ∈ words1.filter isCode, c.before args0 about1 = true := by
  rw [codes_eq]
  intro c hc
  simp only [codes1, List.mem_cons, List.not_mem_nil, or_false] at hc
  rcases hc with rfl | rfl | rfl | rfl
  · exact w_c0
  · exact w_c1
  · exact w_c2
  · exact w_c3
set_option maxRecDepth 65536 in
theorem w_t1 : words1.all (fun c => isCode c || c.before args0 about1) = true := by decide +kernel
theorem w_tables : (allAtoms (Jvm.Cond.code x code maxLocals ret :: tables_1)).before args0 about1 = true := by
  rw [allAtoms_all]
  show words1.all (fun c => c.before args0 about1) = true
  refine all_split ?_ w_codes
  rw [w_t1]
set_option maxRecDepth 65536 in
theorem w_case : (Jvm.Cond.and given_1 narrow_1).before args0 about1 = true := by decide +kernel
theorem w_applies : (headSpec (Jvm.Cond.code x code maxLocals ret :: tables_1) room_1).applies x e0.platform about1 = true :=
  (Spec.applies_iff w_frames).mpr ⟨w_running, w_runnable, w_alone, w_named, w_hears, w_ripe, w_room, w_tables⟩
theorem atStart : AtStart classFile x code maxLocals ret World_1 tables_1 room_1 Calls_1 rest_1 Pre_1 launch0 p0 e0 about1 theMethod args0 below0 :=
  ⟨lists_1, trivial, launch0.admits_env _ _ _, launch0.least_env, fairChoices_fair.cas, fairChoices_fair.clock, w_frames, w_args, w_heap, w_applies, trivial, trivial, w_case⟩
end start1
theorem witness_1 : WitnessClaimed_1 := ⟨start1.p0, start1.e0, start1.about1, start1.theMethod, start1.args0, start1.below0, start1.atStart⟩
end Jvm.Pilot.@@N@@
