import JvmDerived
import JvmDerived.Pilot.@@N@@Statement
import JvmDerived.Pilot.@@N@@Code
set_option linter.unusedVariables false
set_option linter.unusedSimpArgs false
namespace Jvm.OwnK
open Sem ClassFile Op Lib Jvm.Stand Jvm.Free Jvm.LawKit Jvm.RoadKit
/-- from cur the body's run returns; Q holds of what it returns, the heap then, the places written; F of the end -/
def EndG (p : Program) (e : Env) (below : List Frame) (F : Outcome → State → List Loc → Prop) (Q : Option Value → Heap → List Loc → Prop) (cur : State) : Prop :=
  ∃ s₂ o, Steps p.tables e below cur s₂ ∧ s₂.status = .running ∧ Ended s₂ below o ∧ ∃ v L, o = .returned v ∧ Q v s₂.heap L ∧ F o s₂ L
abbrev End (p : Program) (e : Env) (below : List Frame) (s : State) (Q : Option Value → Heap → List Loc → Prop) (cl sl : Nat) (cur : State) : Prop := EndG p e below (fun o t L => FrameEnd s o t L cl sl) Q cur
/-- a body's contract: entered with the arguments 'as' at the heap h (tables warmer than Z's) it returns, and Q holds -/
def Con (l : Launch) (Z : State) (y : MethodName) (bytes : ByteArray) (maxL : Nat) (ret : Option FieldType) (ws : List Cond) (rm : Room) (as : Array Value) (h : Heap) (Q : Option Value → Heap → List Loc → Prop) : Prop :=
  MetFree l y (head1 (Cond.code y bytes maxL ret :: ws) rm) (fun a U => a = as ∧ Z.Warmed39 U.vm ∧ U.heap = h) (fun _ _ _ _ _ => True) (fun _ U o U' => ∃ v L, o = .returned v ∧ Q v U'.heap L ∧ FrameEnd U o U' L rm.cells rm.slots)
theorem retI_eq {a b : Int32} (h : b = a) : (some (Value.int a) : Option Value) = some (.int b) := by rw [h]
theorem retJ_eq {a b : Int64} (h : b = a) : (some (Value.long a) : Option Value) = some (.long b) := by rw [h]
theorem retD_eq {a b : UInt64} (h : b = a) : (some (Value.double a) : Option Value) = some (.double b) := by rw [h]
section Steps
variable {p : Program} {l : Launch} {e : Env} {R : Room} {s : State} {m : MethodId} {args : Array Value} {below : List Frame} {meth : Method} {c : Code} {T : State} {locs : List Loc} {cells slots : Nat} {Fe : Outcome → State → List Loc → Prop} {Q : Option Value → Heap → List Loc → Prop} {cl sl : Nat} {pc q : Nat} {Ls : Array Slot} {rest : List Value}
theorem EndG.st {cur nxt : State} (k : EndG p e below Fe Q nxt) (st : ∀ t, Steps p.tables e below nxt t → Steps p.tables e below cur t) : EndG p e below Fe Q cur := by
  obtain ⟨s₂, o, h1, r⟩ := k; exact ⟨s₂, o, st _ h1, r⟩
theorem EndG.tr {cur nxt : State} (k : EndG p e below Fe Q nxt) (st : Steps p.tables e below cur nxt) : EndG p e below Fe Q cur := by
  obtain ⟨s₂, o, h1, r⟩ := k; exact ⟨s₂, o, st.trans h1, r⟩
theorem End.cast {g g' : JFrame} (k : EndG p e below Fe Q (T.setTop g')) (h : g = g') : EndG p e below Fe Q (T.setTop g) := h ▸ k
theorem Con.of {Z : State} {y : MethodName} {bytes : ByteArray} {maxL : Nat} {ret : Option FieldType} {ws : List Cond} {rm : Room} {as : Array Value} {h : Heap} (hpl : plainFor y = true)
    (body : ∀ (p : Program) (e : Env) (s : State) (m : MethodId) (below : List Frame) (meth : Method) (c : Code) (s₁ : State), Stand p l e rm s m as below meth c s₁ [] 0 0 → p.tables.exec = Jvm.exec → c.code = bytes → c.maxLocals = maxL → s.vm.findClass y.cls = some m.cls → meth.name = y.name → meth.sig.returnType = ret → meth.locks = false → Z.Warmed39 s.vm → s₁.heap = h → End p e below s Q rm.cells rm.slots (s₁.setTop (entryFrame m as maxL))) :
    Con l Z y bytes maxL ret ws rm as h Q := by
  refine MetFree.of_bodySF hpl hisR ?_
  intro p e s m args below meth c s₁ Bd hml hP hK
  obtain ⟨rfl, hZ, hh⟩ := hP
  obtain ⟨s₂, o, h1, h2, h3, v, L, h4, h5, h6⟩ := body p e s m below meth c s₁ (Stand.of_body Bd) Bd.exec Bd.bytes hml (findClass_of_methodNamed Bd.named) (name_of_methodNamed Bd.named Bd.method).1 Bd.returns Bd.notSynchronized hZ (by rw [← hh, Bd.state]; rfl)
  exact ⟨s₂, o, h1, h2, h3, v, L, h4, h5, h6⟩
theorem Con.mono {Z : State} {y : MethodName} {bytes : ByteArray} {maxL : Nat} {ret : Option FieldType} {ws : List Cond} {rm : Room} {as : Array Value} {h : Heap} {Q' : Option Value → Heap → List Loc → Prop} (k : Con l Z y bytes maxL ret ws rm as h Q) (hQ : ∀ v hh L, Q v hh L → Q' v hh L) : Con l Z y bytes maxL ret ws rm as h Q' := by
  intro p e ha hc hk s m args below hf happ hP hK
  obtain ⟨n, o, h1, h2, h3, v, L, h4, h5, h6⟩ := k p e ha hc hk s m args below hf happ hP hK
  exact ⟨n, o, h1, h2, h3, v, L, h4, hQ _ _ _ h5, h6⟩
theorem k_iloadN (X : Stand p l e R s m args below meth c T locs cells slots) (hx : p.tables.exec = Jvm.exec) {j : Fin 4} {v : Int32} (hq : pc + 1 = q) (hd : decode c.code pc = .ok (.iload_n j, 1)) (hl : Ls[j.val]? = some (.val (.int v))) (k : EndG p e below Fe Q (T.setTop (mkF m q Ls (.int v :: rest)))) : EndG p e below Fe Q (T.setTop (mkF m pc Ls (rest))) := by
  subst hq; exact k.st fun t w => XS.iloadN X.here hx rfl hd hl w
theorem k_istoreN (X : Stand p l e R s m args below meth c T locs cells slots) (hx : p.tables.exec = Jvm.exec) {j : Fin 4} {v : Int32} {L' : Array Slot} (hq : pc + 1 = q) (hd : decode c.code pc = .ok (.istore_n j, 1)) (hl : storeLocals Ls j.val (.int v) = some L') (k : EndG p e below Fe Q (T.setTop (mkF m q L' (rest)))) : EndG p e below Fe Q (T.setTop (mkF m pc Ls (.int v :: rest))) := by
  subst hq; exact k.st fun t w => XS.istoreN X.here hx rfl hd rfl hl w
theorem k_aloadN (X : Stand p l e R s m args below meth c T locs cells slots) (hx : p.tables.exec = Jvm.exec) {j : Fin 4} {v : Value} (hq : pc + 1 = q) (hd : decode c.code pc = .ok (.aload_n j, 1)) (hl : Ls[j.val]? = some (.val v)) (hv : v.isRef = true) (k : EndG p e below Fe Q (T.setTop (mkF m q Ls (v :: rest)))) : EndG p e below Fe Q (T.setTop (mkF m pc Ls (rest))) := by
  subst hq; exact k.st fun t w => XS.aloadN X.here hx rfl hd hl hv w
theorem k_astoreN (X : Stand p l e R s m args below meth c T locs cells slots) (hx : p.tables.exec = Jvm.exec) {j : Fin 4} {v : Value} {L' : Array Slot} (hq : pc + 1 = q) (hd : decode c.code pc = .ok (.astore_n j, 1)) (hv : v.isRef = true) (hl : storeLocals Ls j.val v = some L') (k : EndG p e below Fe Q (T.setTop (mkF m q L' (rest)))) : EndG p e below Fe Q (T.setTop (mkF m pc Ls (v :: rest))) := by
  subst hq; exact k.st fun t w => XS.astoreN X.here hx rfl hd rfl hv hl w
theorem k_iconst (X : Stand p l e R s m args below meth c T locs cells slots) (hx : p.tables.exec = Jvm.exec) {i : Int} {v : Int32} (hv : Int32.ofInt i = v) (hq : pc + 1 = q) (hd : decode c.code pc = .ok (.iconst i, 1)) (k : EndG p e below Fe Q (T.setTop (mkF m q Ls (.int v :: rest)))) : EndG p e below Fe Q (T.setTop (mkF m pc Ls (rest))) := by
  subst hq hv; exact k.st fun t w => XS.iconst X.here hx rfl hd w
theorem k_bipush (X : Stand p l e R s m args below meth c T locs cells slots) (hx : p.tables.exec = Jvm.exec) {i : Int} {v : Int32} (hv : (Int8.ofInt i).toInt32 = v) (hq : pc + 2 = q) (hd : decode c.code pc = .ok (.bipush i, 2)) (k : EndG p e below Fe Q (T.setTop (mkF m q Ls (.int v :: rest)))) : EndG p e below Fe Q (T.setTop (mkF m pc Ls (rest))) := by
  subst hq hv; exact k.st fun t w => XS.bipush X.here hx rfl hd w
theorem k_iand (X : Stand p l e R s m args below meth c T locs cells slots) (hx : p.tables.exec = Jvm.exec) {x y : Int32} (hq : pc + 1 = q) (hd : decode c.code pc = .ok (.iand, 1)) (k : EndG p e below Fe Q (T.setTop (mkF m q Ls (.int (x &&& y) :: rest)))) : EndG p e below Fe Q (T.setTop (mkF m pc Ls (.int y :: .int x :: rest))) := by
  subst hq; exact k.st fun t w => XS.iand X.here hx rfl hd rfl w
theorem k_irem (X : Stand p l e R s m args below meth c T locs cells slots) (hx : p.tables.exec = Jvm.exec) {x y : Int32} (hq : pc + 1 = q) (hd : decode c.code pc = .ok (.irem, 1)) (hy : y ≠ 0) (k : EndG p e below Fe Q (T.setTop (mkF m q Ls (.int (x % y) :: rest)))) : EndG p e below Fe Q (T.setTop (mkF m pc Ls (.int y :: .int x :: rest))) := by
  subst hq; exact k.st fun t w => iremM X hx rfl hd rfl hy w
theorem k_dup (X : Stand p l e R s m args below meth c T locs cells slots) (hx : p.tables.exec = Jvm.exec) {x : Value} (hq : pc + 1 = q) (hd : decode c.code pc = .ok (.dup, 1)) (hc : x.category = 1) (k : EndG p e below Fe Q (T.setTop (mkF m q Ls (x :: x :: rest)))) : EndG p e below Fe Q (T.setTop (mkF m pc Ls (x :: rest))) := by
  subst hq; exact k.st fun t w => XS.dup X.here hx rfl hd rfl hc w
theorem k_goto (X : Stand p l e R s m args below meth c T locs cells slots) (hx : p.tables.exec = Jvm.exec) {o : Int} (ho : 0 ≤ (pc : Int) + o) (hp : ((pc : Int) + o).toNat = q) (hd : decode c.code pc = .ok (.goto o, 3)) (k : EndG p e below Fe Q (T.setTop (mkF m q Ls (rest)))) : EndG p e below Fe Q (T.setTop (mkF m pc Ls (rest))) :=
  k.st fun t w => XS.goto X.here hx rfl (pc0 := pc) (pc' := q) rfl hd ho hp w
theorem k_icmp_eq (X : Stand p l e R s m args below meth c T locs cells slots) (hx : p.tables.exec = Jvm.exec) {x y : Int32} {o : Int} {q1 : Nat} (ho : 0 ≤ (pc : Int) + o) (hp : ((pc : Int) + o).toNat = q1) (hq : pc + 3 = q) (hd : decode c.code pc = .ok (.if_icmp .eq o, 3)) (kt : x = y → EndG p e below Fe Q (T.setTop (mkF m q1 Ls (rest)))) (kf : ¬ x = y → EndG p e below Fe Q (T.setTop (mkF m q Ls (rest)))) : EndG p e below Fe Q (T.setTop (mkF m pc Ls (.int y :: .int x :: rest))) := by
  by_cases h : x = y
  · exact (kt h).st fun t w => XS.icmpYes X.here hx rfl (pc0 := pc) (pc' := q1) rfl hd rfl (XT.ii_eq_t h) ho hp w
  · subst hq; exact (kf h).st fun t w => XS.icmpNo X.here hx rfl hd rfl (XT.ii_eq_f h) w
theorem k_icmp_ne (X : Stand p l e R s m args below meth c T locs cells slots) (hx : p.tables.exec = Jvm.exec) {x y : Int32} {o : Int} {q1 : Nat} (ho : 0 ≤ (pc : Int) + o) (hp : ((pc : Int) + o).toNat = q1) (hq : pc + 3 = q) (hd : decode c.code pc = .ok (.if_icmp .ne o, 3)) (kt : ¬ x = y → EndG p e below Fe Q (T.setTop (mkF m q1 Ls (rest)))) (kf : x = y → EndG p e below Fe Q (T.setTop (mkF m q Ls (rest)))) : EndG p e below Fe Q (T.setTop (mkF m pc Ls (.int y :: .int x :: rest))) := by
  by_cases h : x = y
  · subst hq; exact (kf h).st fun t w => XS.icmpNo X.here hx rfl hd rfl (XT.ii_ne_f h) w
  · exact (kt h).st fun t w => XS.icmpYes X.here hx rfl (pc0 := pc) (pc' := q1) rfl hd rfl (XT.ii_ne_t h) ho hp w
theorem k_icmp_lt (X : Stand p l e R s m args below meth c T locs cells slots) (hx : p.tables.exec = Jvm.exec) {x y : Int32} {o : Int} {q1 : Nat} (ho : 0 ≤ (pc : Int) + o) (hp : ((pc : Int) + o).toNat = q1) (hq : pc + 3 = q) (hd : decode c.code pc = .ok (.if_icmp .lt o, 3)) (kt : x < y → EndG p e below Fe Q (T.setTop (mkF m q1 Ls (rest)))) (kf : ¬ x < y → EndG p e below Fe Q (T.setTop (mkF m q Ls (rest)))) : EndG p e below Fe Q (T.setTop (mkF m pc Ls (.int y :: .int x :: rest))) := by
  by_cases h : x < y
  · exact (kt h).st fun t w => XS.icmpYes X.here hx rfl (pc0 := pc) (pc' := q1) rfl hd rfl (XT.ii_lt_t h) ho hp w
  · subst hq; exact (kf h).st fun t w => XS.icmpNo X.here hx rfl hd rfl (XT.ii_lt_f h) w
theorem k_icmp_le (X : Stand p l e R s m args below meth c T locs cells slots) (hx : p.tables.exec = Jvm.exec) {x y : Int32} {o : Int} {q1 : Nat} (ho : 0 ≤ (pc : Int) + o) (hp : ((pc : Int) + o).toNat = q1) (hq : pc + 3 = q) (hd : decode c.code pc = .ok (.if_icmp .le o, 3)) (kt : ¬ y < x → EndG p e below Fe Q (T.setTop (mkF m q1 Ls (rest)))) (kf : y < x → EndG p e below Fe Q (T.setTop (mkF m q Ls (rest)))) : EndG p e below Fe Q (T.setTop (mkF m pc Ls (.int y :: .int x :: rest))) := by
  by_cases h : y < x
  · subst hq; exact (kf h).st fun t w => XS.icmpNo X.here hx rfl hd rfl (XT.ii_le_f h) w
  · exact (kt h).st fun t w => XS.icmpYes X.here hx rfl (pc0 := pc) (pc' := q1) rfl hd rfl (XT.ii_le_t h) ho hp w
theorem k_acmp_y (X : Stand p l e R s m args below meth c T locs cells slots) (hx : p.tables.exec = Jvm.exec) {cd : ACond} {o : Int} {x y : Value} (ho : 0 ≤ (pc : Int) + o) (hp : ((pc : Int) + o).toNat = q) (hd : decode c.code pc = .ok (.if_acmp cd o, 3)) (hx' : x.isRef = true) (hy' : y.isRef = true) (hc : XT.acmp cd x y = true) (k : EndG p e below Fe Q (T.setTop (mkF m q Ls (rest)))) : EndG p e below Fe Q (T.setTop (mkF m pc Ls (y :: x :: rest))) :=
  k.st fun t w => XT.acmpYes X.here hx rfl (pc0 := pc) (pc' := q) rfl hd rfl hx' hy' hc ho hp w
theorem k_acmp_n (X : Stand p l e R s m args below meth c T locs cells slots) (hx : p.tables.exec = Jvm.exec) {cd : ACond} {o : Int} {x y : Value} (hq : pc + 3 = q) (hd : decode c.code pc = .ok (.if_acmp cd o, 3)) (hx' : x.isRef = true) (hy' : y.isRef = true) (hc : XT.acmp cd x y = false) (k : EndG p e below Fe Q (T.setTop (mkF m q Ls (rest)))) : EndG p e below Fe Q (T.setTop (mkF m pc Ls (y :: x :: rest))) := by
  subst hq; exact k.st fun t w => XT.acmpNo X.here hx rfl hd rfl hx' hy' hc w
theorem k_retN (X : Stand p l e R s m args below meth c T locs cells slots) (hx : p.tables.exec = Jvm.exec) {z : Int32} {t : FieldType} (hlk : meth.locks = false) (hcl : cells ≤ cl) (hsl : slots ≤ sl) (hret : meth.sig.returnType = some t) (ht : t = .boolean ∨ t = .byte ∨ t = .char ∨ t = .short) (hd : decode c.code pc = .ok (.ireturn, 1)) (hQ : Q (some (.int (nar t z))) T.heap locs) : End p e below s Q cl sl (T.setTop (mkF m pc Ls (.int z :: rest))) := by
  obtain ⟨fs, hr, hrun, hended, hW, hsame⟩ := X.leave (v := (some (.int (nar t z)))) (fun h => by rw [hret] at h; cases h) hlk
  refine ⟨_, _, ?_, hrun, hended, _, _, rfl, hQ, ⟨_, rfl⟩, hW, hsame.mono hcl hsl⟩
  exact retN X hx hret ht hd hr
variable {Z : State} {a0 : Array Value} {h : Heap}
theorem k_ldcI (X : Stand p l e R s m args below meth c T locs cells slots) (hx : p.tables.exec = Jvm.exec) (hZ : Z.Warmed39 s.vm) {own : String} {index : Nat} {v : Int32} (hown : s.vm.findClass own = some m.cls) (w0 : (Cond.constant own index v).before a0 Z = true) (hq : pc + 2 = q) (hd : decode c.code pc = .ok (.ldc index, 2)) (k : EndG p e below Fe Q (T.setTop (mkF m q Ls (.int v :: rest)))) : EndG p e below Fe Q (T.setTop (mkF m pc Ls (rest))) := by
  subst hq; exact k.st fun t w => X.ldcInt hx hown (mvT hZ w0) (g := (mkF m pc Ls (rest))) rfl hd t w
theorem k_getS (X : Stand p l e R s m args below meth c T locs cells slots) (hx : p.tables.exec = Jvm.exec) (hZ : Z.Warmed39 s.vm) {own R0 O n d host : String} {index : Nat} (hown : s.vm.findClass own = some m.cls) (w0 : (Cond.fieldLink own index R0 n d).before a0 Z = true ∨ (Cond.fieldLinkNest own index R0 n d host).before a0 Z = true) (via : Via Z R0 O n d) (eT : T.heap = h) {v : Value} (hq : pc + 3 = q) (hd : decode c.code pc = .ok (.getstatic index, 3)) (F : Sta Z h O n d v) (k : ∀ T', Stand p l e R s m args below meth c T' locs cells slots → T'.heap = h → EndG p e below Fe Q (T'.setTop (mkF m q Ls (v :: rest)))) : EndG p e below Fe Q (T.setTop (mkF m pc Ls (rest))) := by
  subst hq; obtain ⟨T', X', e', st⟩ := getS2 X hx hZ hown w0 via eT F (g := (mkF m pc Ls (rest))) rfl hd
  exact (k T' X' e').st st
theorem k_newR (X : Stand p l e R s m args below meth c T locs cells slots) (hx : p.tables.exec = Jvm.exec) (hZ : Z.Warmed39 s.vm) {own C : String} {index : Nat} (hown : s.vm.findClass own = some m.cls) (w1 : (Cond.classLink own index C).before a0 Z = true) (w2 : (Cond.arrayOver (.object C)).before a0 Z = true) (eT : T.heap = h) {n : Int32} (hq : pc + 3 = q) (hd : decode c.code pc = .ok (.anewarray index, 3)) (hn : ¬ n < 0) {cap : Nat} (hcap : n.toNatClampNeg ≤ cap) (hb : cap * 8 ≤ 536870912) (hc : cells + 1 ≤ R.cells) (hl : slots + cap ≤ R.slots) (k : ∀ T' h' a cA, Stand p l e R s m args below meth c T' locs (cells + 1) (slots + cap) → T'.heap = h' → a = h.size → Ext h h' → Arr Z h' a (newA cA (.object C) n) (.object C) → Ovr Z cA C → EndG p e below Fe Q (T'.setTop (mkF m q Ls (.ref a :: rest)))) : EndG p e below Fe Q (T.setTop (mkF m pc Ls (.int n :: rest))) := by
  subst hq; obtain ⟨T', h', cA, X', e', E', A', O', st⟩ := newR X hx hZ hown w1 w2 eT (g := (mkF m pc Ls (.int n :: rest))) rfl hd rfl hn hcap hb hc hl
  exact (k T' h' _ cA X' e' rfl E' A' O').st st
end Steps
/-- the array at a has n places; the place t holds v t -/
def Ary (Z : State) (h : Heap) (a : Addr) (ty : FieldType) (n : Nat) (v : Nat → Value) : Prop := ∃ c : Cell, Arr Z h a c ty ∧ c.slots.size = n ∧ n < 2 ^ 31 ∧ ∀ t, t < n → c.slots[t]? = some (v t)
/-- g, but x at i -/
def upd {α : Type} (g : Nat → α) (i : Nat) (x : α) : Nat → α := fun t => if t = i then x else g t
theorem upd_same {α : Type} (g : Nat → α) (i : Nat) (x : α) : upd g i x i = x := if_pos rfl
theorem upd_other {α : Type} (g : Nat → α) {i t : Nat} (x : α) (q : t ≠ i) : upd g i x t = g t := if_neg q
section Arys
variable {Z : State} {h h' : Heap} {a b : Addr} {ty : FieldType} {n : Nat} {v w : Nat → Value} {sl : Nat} {x : Value} {ws : List Addr}
theorem Ary.lt (F : Ary Z h a ty n v) : a < h.size := by obtain ⟨c, A, -⟩ := F; exact A.lt
theorem Ary.ext (F : Ary Z h a ty n v) (E : Ext h h') : Ary Z h' a ty n v := by obtain ⟨c, A, r⟩ := F; exact ⟨c, A.ext E, r⟩
theorem Ary.other (F : Ary Z h b ty n v) (W : Wr h h' a sl x) (q : b ≠ a) : Ary Z h' b ty n v := by obtain ⟨c, A, r⟩ := F; exact ⟨c, A.other W q, r⟩
theorem Ary.keep (F : Ary Z h a ty n v) (K : Keep h h' ws) (q : a ∉ ws) : Ary Z h' a ty n v := by obtain ⟨c, A, r⟩ := F; exact ⟨c, ⟨K.2.1 a c A.1 q, A.2⟩, r⟩
theorem Ary.same (F : Ary Z h a ty n v) (W : Wr h h' a sl x) : Ary Z h' a ty n (fun t => if t = sl then x else v t) := by
  obtain ⟨c, A, S, B, H⟩ := F
  refine ⟨_, A.same W, by rw [sz_set, S], B, fun t ht => ?_⟩
  by_cases q : t = sl
  · subst q; simp [Cell.setSlot, S, ht]
  · simp only [if_neg q, Cell.setSlot]; rw [Array.getElem?_setIfInBounds_ne (Ne.symm q)]; exact H t ht
theorem Ary.congr (F : Ary Z h a ty n v) (q : ∀ t, t < n → v t = w t) : Ary Z h a ty n w := by obtain ⟨c, A, S, B, H⟩ := F; exact ⟨c, A, S, B, fun t ht => by rw [H t ht, q t ht]⟩
theorem Ary.new {k : ClassId} {z : Int32} (A : Arr Z h a (newA k ty z) ty) (q : ¬ z < 0) (hn : z.toNatClampNeg = n) : Ary Z h a ty n (fun _ => defaultValue ty) := by
  subst hn; exact ⟨_, A, sz_new _ _ _, (back32 q).2, fun t ht => by simp [newA, ht]⟩
theorem Keep.of_ext (E : Ext h h') : Keep h h' [] := (Keep.refl h []).ext E
def Cls (h : Heap) (a : Addr) (k : ClassId) : Prop := ∃ c : Cell, h[a]? = some c ∧ c.cls = k
theorem Cls.lt {k : ClassId} (F : Cls h a k) : a < h.size := by obtain ⟨c, h1, -⟩ := F; exact (Array.getElem?_eq_some_iff.mp h1).1
theorem Cls.keep {k : ClassId} (F : Cls h a k) (K : Keep h h' ws) : Cls h' a k := by obtain ⟨c, h1, h2⟩ := F; obtain ⟨c', q1, q2, -⟩ := K.2.2 _ _ h1; exact ⟨c', q1, q2.trans h2⟩
theorem Sto.ofA {k : ClassId} {C : String} {y : Addr} (A : Ary Z h a ty n v) (q : Cls h a k) (O : Ovr Z k C) (I : Ins Z h y C true) : Sto Z h a (.ref y) := by
  obtain ⟨c, A, r⟩ := A; obtain ⟨c', q1, q2⟩ := q; cases A.1.symm.trans q1; exact Sto.of A (q2 ▸ O) I
end Arys
theorem acmp_eq_t {a b : Addr} (h : a = b) : XT.acmp .eq (.ref a) (.ref b) = true := by subst h; simp [XT.acmp]
theorem acmp_eq_f {a b : Addr} (h : ¬ a = b) : XT.acmp .eq (.ref a) (.ref b) = false := by simp [XT.acmp, h]
theorem acmp_ne_t {a b : Addr} (h : ¬ a = b) : XT.acmp .ne (.ref a) (.ref b) = true := by simp [XT.acmp, h]
theorem acmp_ne_f {a b : Addr} (h : a = b) : XT.acmp .ne (.ref a) (.ref b) = false := by subst h; simp [XT.acmp]
/-- j names the place i -/
def Ix (j : Int32) (i : Nat) : Prop := ¬ j < 0 ∧ j.toNatClampNeg = i
theorem Ix.in {j : Int32} {i n : Nat} {c : Cell} (q : Ix j i) (S : c.slots.size = n) (hi : i < n) : ¬ (j < 0 ∨ c.slots.size ≤ j.toNatClampNeg) := fun o => o.elim q.1 fun o => by rw [S, q.2] at o; omega
theorem Ix.of {j : Int32} {i : Nat} (q : j.toInt = i) : Ix j i := by
  have h0 : ¬ j < 0 := by rw [Int32.lt_iff_toInt_lt, show (0 : Int32).toInt = 0 from by decide]; omega
  refine ⟨h0, ?_⟩
  have := nat_of h0; omega
theorem Ix.int {j : Int32} {i : Nat} (q : Ix j i) : j.toInt = i := by have := nat_of q.1; rw [q.2] at this; exact this
section Steps
variable {p : Program} {l : Launch} {e : Env} {R : Room} {s : State} {m : MethodId} {args : Array Value} {below : List Frame} {meth : Method} {c : Code} {T : State} {locs : List Loc} {cells slots : Nat} {Fe : Outcome → State → List Loc → Prop} {Q : Option Value → Heap → List Loc → Prop} {cl sl : Nat} {pc q : Nat} {Ls : Array Slot} {rest : List Value}
variable {Z : State} {a0 : Array Value} {h : Heap}
theorem k_arR (X : Stand p l e R s m args below meth c T locs cells slots) (hx : p.tables.exec = Jvm.exec) (hZ : Z.Warmed39 s.vm) (eT : T.heap = h) {a : Addr} {ty : FieldType} {n : Nat} {v : Nat → Value} {j : Int32} {x : Value} (i : Nat) (hq : pc + 1 = q) (hd : decode c.code pc = .ok (.aaload, 1)) (A : Ary Z h a ty n v) (hty : ty.isReference = true) (hj : Ix j i) (hi : i < n) (hv : v i = x) (k : EndG p e below Fe Q (T.setTop (mkF m q Ls (x :: rest)))) : EndG p e below Fe Q (T.setTop (mkF m pc Ls (.int j :: .ref a :: rest))) := by
  obtain ⟨ce, A, S, B, H⟩ := A
  subst hq hv; exact k.st fun t w => X.aaload hx (j := j) (v := v i) (by rw [eT]; exact A.1) (State.isArrayOf_alike hZ.alike A.2.1) hty A.2.2 (hj.in S hi) (by rw [hj.2]; exact H i hi) (g := (mkF m pc Ls (.int j :: .ref a :: rest))) rfl rfl hd t w
theorem k_asR (X : Stand p l e R s m args below meth c T locs cells slots) (hx : p.tables.exec = Jvm.exec) (hZ : Z.Warmed39 s.vm) (eT : T.heap = h) {a : Addr} {ty : FieldType} {n : Nat} {v : Nat → Value} {j : Int32} {x : Value} (i : Nat) (hq : pc + 1 = q) (hd : decode c.code pc = .ok (.aastore, 1)) (A : Ary Z h a ty n v) (hj : Ix j i) (hi : i < n) (hty : ty.isReference = true) (F : Sto Z h a x) (k : ∀ T' h', Stand p l e R s m args below meth c T' (locs ++ [⟨a, i⟩]) cells slots → T'.heap = h' → Wr h h' a i x → Ary Z h' a ty n (fun t => if t = i then x else v t) → EndG p e below Fe Q (T'.setTop (mkF m q Ls (rest)))) : EndG p e below Fe Q (T.setTop (mkF m pc Ls (x :: .int j :: .ref a :: rest))) := by
  have A0 := A
  obtain ⟨ce, A, S, B, H⟩ := A
  subst hq; obtain ⟨T', h', X', e', W', st⟩ := stR X hx hZ eT A (hj.in S hi) hty F (g := (mkF m pc Ls (x :: .int j :: .ref a :: rest))) rfl rfl hd
  rw [hj.2] at X' W'
  exact (k T' h' X' e' W' (A0.same W')).st st
theorem k_callV (X : Stand p l e R s m args below meth c T locs cells slots) (hx : p.tables.exec = Jvm.exec) (hZ : Z.Warmed39 s.vm) {own : String} {index : Nat} {y : MethodName} {bytes : ByteArray} {maxL : Nat} {ret : Option FieldType} {rm : Room} {as : List Value} {Qc : Option Value → Heap → List Loc → Prop} {a : Addr} {C : String} {z : MethodName} (hown : s.vm.findClass own = some m.cls) (w1 : (Cond.methodLink own index y).before a0 Z = true) (w2 : (Cond.declares y).before a0 Z = true) (hnf : NotFace s y) (w3 : (Cond.selects C y z).before a0 Z = true) (w4 : (Cond.instanceMethod z).before a0 Z = true) (w5 : (Cond.code z bytes maxL ret).before a0 Z = true) (w6 : (Cond.initialized z.cls).before a0 Z = true) (hy : y.cls ≠ "java/lang/invoke/MethodHandle" ∧ y.cls ≠ "java/lang/invoke/VarHandle") (Ex : Exa Z h a C) (W : Nat) (eT : T.heap = h) (hM : Con l Z z bytes maxL ret [] rm (.ref a :: as).toArray h Qc) (hf : rm.frames + 1 ≤ R.frames) (hl : W + (maxL + 11) + rm.locals ≤ R.locals) (hcl : cells + rm.cells ≤ R.cells) (hsl : slots + rm.slots ≤ R.slots) (hls : Ls.size = c.maxLocals) {ps : List FieldType} {rt : Option FieldType} (hpd : parseMethodDescriptor y.desc = some ⟨ps, rt⟩) (hlen : as.length = ps.length) (hW : 2 * 0 + (rest.map fun v => v.category).sum ≤ W) (hq : pc + 3 = q) (hd : decode c.code pc = .ok (.invokevirtual index, 3)) (k : ∀ v T' L, Stand p l e R s m args below meth c T' (locs ++ L) (cells + rm.cells) (slots + rm.slots) → Qc v T'.heap L → EndG p e below Fe Q (T'.setTop (mkF m q Ls (v.toList ++ rest)))) : EndG p e below Fe Q (T.setTop (mkF m pc Ls (as.reverse ++ .ref a :: rest))) := by
  subst hq
  obtain ⟨cB, kB, q1, q2, q3⟩ := isOf hZ eT Ex
  obtain ⟨v, _, ⟨T', L', k', n'⟩, -, X', ⟨Lc, hQ, l', y', z'⟩, st⟩ := X.virtualBack hx (y := y) (z := z) hown (mvT hZ w1) (mvT hZ w2) hnf (mvT hZ w3) (mvT hZ w4) hy (backOf (W := W) hM hZ w5 w6 hf hl) q1 q3 (g := (mkF m pc Ls (as.reverse ++ .ref a :: rest))) rfl hls (Steps.refl _) (argsL := as) (rest := rest) (lenOf hpd hlen) rfl hW hd (fun _ _ => ⟨rfl, eT, hcl, hsl⟩)
  dsimp only [Pt.U, Pt.locs, Pt.cells, Pt.slots] at X' l' y' z' st hQ
  subst l' y' z'
  exact (k v T' Lc X' hQ).tr st
end Steps
end Jvm.OwnK
namespace Jvm.Pilot.@@N@@
open Jvm Jvm.ClassFile Sem Op Lib Jvm.Free Jvm.Stand Jvm.LawKit Jvm.RoadKit Jvm.OwnK Bundle Jvm.Pilot.@@N@@.Jvm.D
theorem pn_0 : plainName "com/example/bones_of_bytecode/bonesofbytecode/MapItemType" = true := by first | (simp [plainName, overriddenIn]; done) | decide +kernel
theorem pn_1 : plainName "com/example/bones_of_bytecode/bonesofbytecode/MapItemTypeAlignedPinLaw" = true := by first | (simp [plainName, overriddenIn]; done) | decide +kernel
theorem pd_0 : parseMethodDescriptor "()Z" = some ⟨[], some .boolean⟩ := by decide +kernel
def own_nm : Nat → String
  | 0 => "HEADER_ITEM"
  | 1 => "STRING_ID_ITEM"
  | 2 => "TYPE_ID_ITEM"
  | 3 => "PROTO_ID_ITEM"
  | 4 => "FIELD_ID_ITEM"
  | 5 => "METHOD_ID_ITEM"
  | 6 => "CLASS_DEF_ITEM"
  | 7 => "CALL_SITE_ID_ITEM"
  | 8 => "METHOD_HANDLE_ITEM"
  | 9 => "MAP_LIST"
  | 10 => "TYPE_LIST"
  | 11 => "ANNOTATION_SET_REF_LIST"
  | 12 => "ANNOTATION_SET_ITEM"
  | 13 => "CLASS_DATA_ITEM"
  | 14 => "CODE_ITEM"
  | 15 => "STRING_DATA_ITEM"
  | 16 => "DEBUG_INFO_ITEM"
  | 17 => "ANNOTATION_ITEM"
  | 18 => "ENCODED_ARRAY_ITEM"
  | 19 => "ANNOTATIONS_DIRECTORY_ITEM"
  | 20 => "HIDDENAPI_CLASS_DATA_ITEM"
  | _ => ""
def own_bad (i : Nat) : Prop := i = 13 ∨ i = 15 ∨ i = 16 ∨ i = 17 ∨ i = 18
def own_al (i : Nat) : Int32 := if i = 13 then 0 else if i = 15 then 0 else if i = 16 then 0 else if i = 17 then 0 else if i = 18 then 0 else 1
theorem d1_0 : decode prog_120_method_7_code 0 = .ok (.aload_n 0, 1) := by decide +kernel
theorem d1_1 : decode prog_120_method_7_code 1 = .ok (.getstatic 43, 3) := by decide +kernel
theorem d1_4 : decode prog_120_method_7_code 4 = .ok (.if_acmp .eq 35, 3) := by decide +kernel
theorem d1_7 : decode prog_120_method_7_code 7 = .ok (.aload_n 0, 1) := by decide +kernel
theorem d1_8 : decode prog_120_method_7_code 8 = .ok (.getstatic 49, 3) := by decide +kernel
theorem d1_11 : decode prog_120_method_7_code 11 = .ok (.if_acmp .eq 28, 3) := by decide +kernel
theorem d1_14 : decode prog_120_method_7_code 14 = .ok (.aload_n 0, 1) := by decide +kernel
theorem d1_15 : decode prog_120_method_7_code 15 = .ok (.getstatic 52, 3) := by decide +kernel
theorem d1_18 : decode prog_120_method_7_code 18 = .ok (.if_acmp .eq 21, 3) := by decide +kernel
theorem d1_21 : decode prog_120_method_7_code 21 = .ok (.aload_n 0, 1) := by decide +kernel
theorem d1_22 : decode prog_120_method_7_code 22 = .ok (.getstatic 55, 3) := by decide +kernel
theorem d1_25 : decode prog_120_method_7_code 25 = .ok (.if_acmp .eq 14, 3) := by decide +kernel
theorem d1_28 : decode prog_120_method_7_code 28 = .ok (.aload_n 0, 1) := by decide +kernel
theorem d1_29 : decode prog_120_method_7_code 29 = .ok (.getstatic 58, 3) := by decide +kernel
theorem d1_32 : decode prog_120_method_7_code 32 = .ok (.if_acmp .eq 7, 3) := by decide +kernel
theorem d1_35 : decode prog_120_method_7_code 35 = .ok (.iconst 1, 1) := by decide +kernel
theorem d1_36 : decode prog_120_method_7_code 36 = .ok (.goto 4, 3) := by decide +kernel
theorem d1_39 : decode prog_120_method_7_code 39 = .ok (.iconst 0, 1) := by decide +kernel
theorem d1_40 : decode prog_120_method_7_code 40 = .ok (.ireturn, 1) := by decide +kernel
theorem ef_1 (m : MethodId) (x0 : Addr) : entryFrame m #[(.ref x0)] 1 = mkF m 0 #[.val (.ref x0)] [] := by first | (simp [entryFrame, mkF, argsToLocals, Value.category]; done) | rfl
set_option maxRecDepth 65536 in
set_option maxHeartbeats 40000000 in
theorem rm1 (l : Launch) (Z : State) (a0 : Array Value) (hw : ∀ d ∈ tables_1, d.before a0 Z = true) (x0 : Addr) (h0 : Heap) (n0 : Nat) (en : Nat → Addr) (i : Nat) (hi : i < 21) (hxi : x0 = en i) (inj : ∀ i j, i < 21 → j < 21 → en i = en j → i = j) (hS : ∀ i, i < 21 → Sta Z h0 "com/example/bones_of_bytecode/bonesofbytecode/MapItemType" (own_nm i) "Lcom/example/bones_of_bytecode/bonesofbytecode/MapItemType;" (.ref (en i))) :
    Con l Z (⟨"com/example/bones_of_bytecode/bonesofbytecode/MapItemType", "aligned", "()Z"⟩ : MethodName) prog_120_method_7_code 1 (some .boolean) [] ({ frames := 0, cells := 0, slots := 0, locals := 0 } : Room) #[(.ref x0)] h0 (fun v h L => v = some (.int (own_al i)) ∧ Fr n0 L ∧ h = h0) := by
  refine Con.of (plainFor_of_name pn_0) ?_
  intro p e s m below meth c s₁ X0 hx hby hml hown hnm hret hlk hZ e0
  refine End.cast ?_ (ef_1 m x0)
  have N0 := Fr.nil n0
  refine k_aloadN X0 hx (q := 1) rfl (hb hby d1_0) rfl rfl ?_
  refine k_getS X0 hx hZ (host := "") hown (Or.inl (hw _ (List.mem_of_getElem? (i := 52) rfl))) Via.refl e0 (v := (.ref (en 13))) (q := 4) rfl (hb hby d1_1) (hS 13 (by decide)) ?_
  intro T1 X1 e1
  by_cases q13 : i = 13
  · refine k_acmp_y X1 hx (q := 39) (by decide) (by decide) (hb hby d1_4) rfl rfl (acmp_eq_t (by rw [hxi, q13])) ?_
    refine k_iconst X1 hx (v := (0 : Int32)) rfl (q := 40) rfl (hb hby d1_39) ?_
    exact k_retN X1 hx (t := .boolean) hlk (by decide) (by decide) hret (by simp) (hb hby d1_40) ⟨by simp only [own_al, if_pos q13, if_true]; rfl, N0, e1⟩
  · refine k_acmp_n X1 hx (q := 7) rfl (hb hby d1_4) rfl rfl (acmp_eq_f (fun q => q13 (inj i 13 hi (by decide) (hxi.symm.trans q)))) ?_
    refine k_aloadN X1 hx (q := 8) rfl (hb hby d1_7) rfl rfl ?_
    refine k_getS X1 hx hZ (host := "") hown (Or.inl (hw _ (List.mem_of_getElem? (i := 53) rfl))) Via.refl e1 (v := (.ref (en 15))) (q := 11) rfl (hb hby d1_8) (hS 15 (by decide)) ?_
    intro T2 X2 e2
    by_cases q15 : i = 15
    · refine k_acmp_y X2 hx (q := 39) (by decide) (by decide) (hb hby d1_11) rfl rfl (acmp_eq_t (by rw [hxi, q15])) ?_
      refine k_iconst X2 hx (v := (0 : Int32)) rfl (q := 40) rfl (hb hby d1_39) ?_
      exact k_retN X2 hx (t := .boolean) hlk (by decide) (by decide) hret (by simp) (hb hby d1_40) ⟨by simp only [own_al, if_neg q13, if_pos q15, if_true]; rfl, N0, e2⟩
    · refine k_acmp_n X2 hx (q := 14) rfl (hb hby d1_11) rfl rfl (acmp_eq_f (fun q => q15 (inj i 15 hi (by decide) (hxi.symm.trans q)))) ?_
      refine k_aloadN X2 hx (q := 15) rfl (hb hby d1_14) rfl rfl ?_
      refine k_getS X2 hx hZ (host := "") hown (Or.inl (hw _ (List.mem_of_getElem? (i := 54) rfl))) Via.refl e2 (v := (.ref (en 16))) (q := 18) rfl (hb hby d1_15) (hS 16 (by decide)) ?_
      intro T3 X3 e3
      by_cases q16 : i = 16
      · refine k_acmp_y X3 hx (q := 39) (by decide) (by decide) (hb hby d1_18) rfl rfl (acmp_eq_t (by rw [hxi, q16])) ?_
        refine k_iconst X3 hx (v := (0 : Int32)) rfl (q := 40) rfl (hb hby d1_39) ?_
        exact k_retN X3 hx (t := .boolean) hlk (by decide) (by decide) hret (by simp) (hb hby d1_40) ⟨by simp only [own_al, if_neg q13, if_neg q15, if_pos q16, if_true]; rfl, N0, e3⟩
      · refine k_acmp_n X3 hx (q := 21) rfl (hb hby d1_18) rfl rfl (acmp_eq_f (fun q => q16 (inj i 16 hi (by decide) (hxi.symm.trans q)))) ?_
        refine k_aloadN X3 hx (q := 22) rfl (hb hby d1_21) rfl rfl ?_
        refine k_getS X3 hx hZ (host := "") hown (Or.inl (hw _ (List.mem_of_getElem? (i := 55) rfl))) Via.refl e3 (v := (.ref (en 17))) (q := 25) rfl (hb hby d1_22) (hS 17 (by decide)) ?_
        intro T4 X4 e4
        by_cases q17 : i = 17
        · refine k_acmp_y X4 hx (q := 39) (by decide) (by decide) (hb hby d1_25) rfl rfl (acmp_eq_t (by rw [hxi, q17])) ?_
          refine k_iconst X4 hx (v := (0 : Int32)) rfl (q := 40) rfl (hb hby d1_39) ?_
          exact k_retN X4 hx (t := .boolean) hlk (by decide) (by decide) hret (by simp) (hb hby d1_40) ⟨by simp only [own_al, if_neg q13, if_neg q15, if_neg q16, if_pos q17, if_true]; rfl, N0, e4⟩
        · refine k_acmp_n X4 hx (q := 28) rfl (hb hby d1_25) rfl rfl (acmp_eq_f (fun q => q17 (inj i 17 hi (by decide) (hxi.symm.trans q)))) ?_
          refine k_aloadN X4 hx (q := 29) rfl (hb hby d1_28) rfl rfl ?_
          refine k_getS X4 hx hZ (host := "") hown (Or.inl (hw _ (List.mem_of_getElem? (i := 56) rfl))) Via.refl e4 (v := (.ref (en 18))) (q := 32) rfl (hb hby d1_29) (hS 18 (by decide)) ?_
          intro T5 X5 e5
          by_cases q18 : i = 18
          · refine k_acmp_y X5 hx (q := 39) (by decide) (by decide) (hb hby d1_32) rfl rfl (acmp_eq_t (by rw [hxi, q18])) ?_
            refine k_iconst X5 hx (v := (0 : Int32)) rfl (q := 40) rfl (hb hby d1_39) ?_
            exact k_retN X5 hx (t := .boolean) hlk (by decide) (by decide) hret (by simp) (hb hby d1_40) ⟨by simp only [own_al, if_neg q13, if_neg q15, if_neg q16, if_neg q17, if_pos q18, if_true]; rfl, N0, e5⟩
          · refine k_acmp_n X5 hx (q := 35) rfl (hb hby d1_32) rfl rfl (acmp_eq_f (fun q => q18 (inj i 18 hi (by decide) (hxi.symm.trans q)))) ?_
            refine k_iconst X5 hx (v := (1 : Int32)) rfl (q := 36) rfl (hb hby d1_35) ?_
            refine k_goto X5 hx (q := 40) (by decide) (by decide) (hb hby d1_36) ?_
            exact k_retN X5 hx (t := .boolean) hlk (by decide) (by decide) hret (by simp) (hb hby d1_40) ⟨by simp only [own_al, if_neg q13, if_neg q15, if_neg q16, if_neg q17, if_neg q18]; rfl, N0, e5⟩
theorem own_ix (x : Int32) : ∃ k : Nat, k < 21 ∧ Ix ((x &&& (2147483647 : Int32)) % (21 : Int32)) k := by
  have e := c_mask x 2147483647 31 (by decide) (by decide)
  have p : (0 : Int) ≤ (x &&& (2147483647 : Int32)).toInt := by rw [e]; exact Int.emod_nonneg _ (by decide)
  have r := (c_irem (x &&& (2147483647 : Int32)) 21 21 (by decide)).1 p
  refine ⟨(((x &&& (2147483647 : Int32)) % (21 : Int32)).toInt).toNat, ?_, Ix.of ?_⟩ <;> omega
theorem own_lt {j : Int32} {k : Nat} (q : Ix j k) (m : Int32) (n : Nat) (hm : m.toInt = n) : (j < m ↔ k < n) ∧ (m < j ↔ n < k) ∧ (j = m ↔ k = n) := by
  have := q.int
  refine ⟨?_, ?_, ?_⟩
  · rw [Int32.lt_iff_toInt_lt]; omega
  · rw [Int32.lt_iff_toInt_lt]; omega
  · rw [← Int32.toInt_inj]; omega
theorem own_fill {en : Nat → Addr} (k : Nat) : ∀ t, t < 21 → (if t = k then Value.ref (en k) else if t < k then .ref (en t) else .null) = (if t < k + 1 then .ref (en t) else .null) := by
  intro t _
  by_cases q : t = k
  · subst q; rw [if_pos rfl, if_pos (by omega)]
  · rw [if_neg q]
    by_cases r : t < k
    · rw [if_pos r, if_pos (by omega)]
    · rw [if_neg r, if_neg (by omega)]
theorem ef_0 (m : MethodId) (x0 : Int32) : entryFrame m #[(.int x0)] maxLocals = mkF m 0 #[.val (.int x0), .unset, .unset, .unset] [] := by first | (simp [entryFrame, mkF, argsToLocals, Value.category, maxLocals]; done) | rfl
set_option maxRecDepth 65536 in
set_option maxHeartbeats 40000000 in
theorem rmL (l : Launch) (Z : State) (a0 : Array Value) (hw : ∀ d ∈ tables_1, d.before a0 Z = true) (x0 : Int32) (h0 : Heap) (n0 : Nat) (Z0 : n0 ≤ h0.size) (O0 : Old Z n0 h0) (en : Nat → Addr) (inj : ∀ i j, i < 21 → j < 21 → en i = en j → i = j) (hS : ∀ i, i < 21 → Sta Z Z.heap "com/example/bones_of_bytecode/bonesofbytecode/MapItemType" (own_nm i) "Lcom/example/bones_of_bytecode/bonesofbytecode/MapItemType;" (.ref (en i))) (hE : ∀ i, i < 21 → Exa Z Z.heap (en i) "com/example/bones_of_bytecode/bonesofbytecode/MapItemType") :
    Con l Z x code maxLocals ret tables_1 room_1 #[(.int x0)] h0 (fun v h L => v = some (.int 1) ∧ Fr n0 L) := by
  refine Con.of (plainFor_of_name pn_1) ?_
  intro p e s m below meth c s₁ X0 hx hby hml hown hnm hret hlk hZ e0
  refine End.cast ?_ (ef_0 m x0)
  have N0 := Fr.nil n0
  refine k_bipush X0 hx (v := (21 : Int32)) rfl (q := 2) rfl (hb hby at_0) ?_
  refine k_newR X0 hx hZ hown (hw _ (List.mem_of_getElem? (i := 0) rfl)) (hw _ (List.mem_of_getElem? (i := 1) rfl)) e0 (q := 5) rfl (hb hby at_2) (by decide) (cap := 21) (by decide) (by decide) (by decide) (by decide) ?_
  intro T1 h1 ar k1 X1 e1 g1 E1 A1 O1
  have K1 := Keep.of_ext E1
  have V1 : Ary Z h1 ar (.object "com/example/bones_of_bytecode/bonesofbytecode/MapItemType") 21 (fun _ => .null) := Ary.new A1 (by decide) rfl
  have C1 : Cls h1 ar k1 := ⟨_, A1.1, rfl⟩
  have Vn : Ary Z h1 ar (.object "com/example/bones_of_bytecode/bonesofbytecode/MapItemType") 21 (fun t => if t < 0 then .ref (en t) else .null) := V1.congr fun t _ => by rw [if_neg (by omega)]
  refine k_dup X1 hx (q := 6) rfl (hb hby at_5) rfl ?_
  refine k_iconst X1 hx (v := (0 : Int32)) rfl (q := 7) rfl (hb hby at_6) ?_
  have Od2 : Old Z n0 h1 := Old.keep O0 K1 all0
  refine k_getS X1 hx hZ (host := "") hown (Or.inl (hw _ (List.mem_of_getElem? (i := 2) rfl))) Via.refl e1 (v := (.ref (en 0))) (q := 10) rfl (hb hby at_7) ((hS 0 (by decide)).ext Od2.2) ?_
  intro T3 X3 e3
  have St0 := Sto.ofA Vn C1 O1 (Ins.self ((hE 0 (by decide)).ext Od2.2))
  have ge_ar : n0 ≤ ar := Nat.le_trans Z0 (Nat.le_of_eq g1.symm)
  refine k_asR X3 hx hZ e3 0 (q := 11) rfl (hb hby at_10) Vn ⟨by decide, by decide⟩ (by decide) rfl St0 ?_
  intro T4 h4 X4 e4 W4 V4
  have K4 := Keep.of_wr W4
  have N4 := Fr.snoc X4 N0 ge_ar
  have Vk0 := V4.congr (own_fill 0)
  refine k_dup X4 hx (q := 12) rfl (hb hby at_11) rfl ?_
  refine k_iconst X4 hx (v := (1 : Int32)) rfl (q := 13) rfl (hb hby at_12) ?_
  have Od5 : Old Z n0 h4 := Old.keep Od2 K4 (allS ge_ar all0)
  refine k_getS X4 hx hZ (host := "") hown (Or.inl (hw _ (List.mem_of_getElem? (i := 6) rfl))) Via.refl e4 (v := (.ref (en 1))) (q := 16) rfl (hb hby at_13) ((hS 1 (by decide)).ext Od5.2) ?_
  intro T6 X6 e6
  have G7 := (C1.keep K4)
  have St1 := Sto.ofA Vk0 G7 O1 (Ins.self ((hE 1 (by decide)).ext Od5.2))
  refine k_asR X6 hx hZ e6 1 (q := 17) rfl (hb hby at_16) Vk0 ⟨by decide, by decide⟩ (by decide) rfl St1 ?_
  intro T8 h8 X8 e8 W8 V8
  have K8 := Keep.of_wr W8
  have N8 := Fr.snoc X8 N4 ge_ar
  have Vk1 := V8.congr (own_fill 1)
  refine k_dup X8 hx (q := 18) rfl (hb hby at_17) rfl ?_
  refine k_iconst X8 hx (v := (2 : Int32)) rfl (q := 19) rfl (hb hby at_18) ?_
  have Od9 : Old Z n0 h8 := Old.keep Od5 K8 (allS ge_ar all0)
  refine k_getS X8 hx hZ (host := "") hown (Or.inl (hw _ (List.mem_of_getElem? (i := 8) rfl))) Via.refl e8 (v := (.ref (en 2))) (q := 22) rfl (hb hby at_19) ((hS 2 (by decide)).ext Od9.2) ?_
  intro T10 X10 e10
  have G11 := (G7.keep K8)
  have St2 := Sto.ofA Vk1 G11 O1 (Ins.self ((hE 2 (by decide)).ext Od9.2))
  refine k_asR X10 hx hZ e10 2 (q := 23) rfl (hb hby at_22) Vk1 ⟨by decide, by decide⟩ (by decide) rfl St2 ?_
  intro T12 h12 X12 e12 W12 V12
  have K12 := Keep.of_wr W12
  have N12 := Fr.snoc X12 N8 ge_ar
  have Vk2 := V12.congr (own_fill 2)
  refine k_dup X12 hx (q := 24) rfl (hb hby at_23) rfl ?_
  refine k_iconst X12 hx (v := (3 : Int32)) rfl (q := 25) rfl (hb hby at_24) ?_
  have Od13 : Old Z n0 h12 := Old.keep Od9 K12 (allS ge_ar all0)
  refine k_getS X12 hx hZ (host := "") hown (Or.inl (hw _ (List.mem_of_getElem? (i := 10) rfl))) Via.refl e12 (v := (.ref (en 3))) (q := 28) rfl (hb hby at_25) ((hS 3 (by decide)).ext Od13.2) ?_
  intro T14 X14 e14
  have G15 := (G11.keep K12)
  have St3 := Sto.ofA Vk2 G15 O1 (Ins.self ((hE 3 (by decide)).ext Od13.2))
  refine k_asR X14 hx hZ e14 3 (q := 29) rfl (hb hby at_28) Vk2 ⟨by decide, by decide⟩ (by decide) rfl St3 ?_
  intro T16 h16 X16 e16 W16 V16
  have K16 := Keep.of_wr W16
  have N16 := Fr.snoc X16 N12 ge_ar
  have Vk3 := V16.congr (own_fill 3)
  refine k_dup X16 hx (q := 30) rfl (hb hby at_29) rfl ?_
  refine k_iconst X16 hx (v := (4 : Int32)) rfl (q := 31) rfl (hb hby at_30) ?_
  have Od17 : Old Z n0 h16 := Old.keep Od13 K16 (allS ge_ar all0)
  refine k_getS X16 hx hZ (host := "") hown (Or.inl (hw _ (List.mem_of_getElem? (i := 12) rfl))) Via.refl e16 (v := (.ref (en 4))) (q := 34) rfl (hb hby at_31) ((hS 4 (by decide)).ext Od17.2) ?_
  intro T18 X18 e18
  have G19 := (G15.keep K16)
  have St4 := Sto.ofA Vk3 G19 O1 (Ins.self ((hE 4 (by decide)).ext Od17.2))
  refine k_asR X18 hx hZ e18 4 (q := 35) rfl (hb hby at_34) Vk3 ⟨by decide, by decide⟩ (by decide) rfl St4 ?_
  intro T20 h20 X20 e20 W20 V20
  have K20 := Keep.of_wr W20
  have N20 := Fr.snoc X20 N16 ge_ar
  have Vk4 := V20.congr (own_fill 4)
  refine k_dup X20 hx (q := 36) rfl (hb hby at_35) rfl ?_
  refine k_iconst X20 hx (v := (5 : Int32)) rfl (q := 37) rfl (hb hby at_36) ?_
  have Od21 : Old Z n0 h20 := Old.keep Od17 K20 (allS ge_ar all0)
  refine k_getS X20 hx hZ (host := "") hown (Or.inl (hw _ (List.mem_of_getElem? (i := 14) rfl))) Via.refl e20 (v := (.ref (en 5))) (q := 40) rfl (hb hby at_37) ((hS 5 (by decide)).ext Od21.2) ?_
  intro T22 X22 e22
  have G23 := (G19.keep K20)
  have St5 := Sto.ofA Vk4 G23 O1 (Ins.self ((hE 5 (by decide)).ext Od21.2))
  refine k_asR X22 hx hZ e22 5 (q := 41) rfl (hb hby at_40) Vk4 ⟨by decide, by decide⟩ (by decide) rfl St5 ?_
  intro T24 h24 X24 e24 W24 V24
  have K24 := Keep.of_wr W24
  have N24 := Fr.snoc X24 N20 ge_ar
  have Vk5 := V24.congr (own_fill 5)
  refine k_dup X24 hx (q := 42) rfl (hb hby at_41) rfl ?_
  refine k_bipush X24 hx (v := (6 : Int32)) rfl (q := 44) rfl (hb hby at_42) ?_
  have Od25 : Old Z n0 h24 := Old.keep Od21 K24 (allS ge_ar all0)
  refine k_getS X24 hx hZ (host := "") hown (Or.inl (hw _ (List.mem_of_getElem? (i := 16) rfl))) Via.refl e24 (v := (.ref (en 6))) (q := 47) rfl (hb hby at_44) ((hS 6 (by decide)).ext Od25.2) ?_
  intro T26 X26 e26
  have G27 := (G23.keep K24)
  have St6 := Sto.ofA Vk5 G27 O1 (Ins.self ((hE 6 (by decide)).ext Od25.2))
  refine k_asR X26 hx hZ e26 6 (q := 48) rfl (hb hby at_47) Vk5 ⟨by decide, by decide⟩ (by decide) rfl St6 ?_
  intro T28 h28 X28 e28 W28 V28
  have K28 := Keep.of_wr W28
  have N28 := Fr.snoc X28 N24 ge_ar
  have Vk6 := V28.congr (own_fill 6)
  refine k_dup X28 hx (q := 49) rfl (hb hby at_48) rfl ?_
  refine k_bipush X28 hx (v := (7 : Int32)) rfl (q := 51) rfl (hb hby at_49) ?_
  have Od29 : Old Z n0 h28 := Old.keep Od25 K28 (allS ge_ar all0)
  refine k_getS X28 hx hZ (host := "") hown (Or.inl (hw _ (List.mem_of_getElem? (i := 18) rfl))) Via.refl e28 (v := (.ref (en 7))) (q := 54) rfl (hb hby at_51) ((hS 7 (by decide)).ext Od29.2) ?_
  intro T30 X30 e30
  have G31 := (G27.keep K28)
  have St7 := Sto.ofA Vk6 G31 O1 (Ins.self ((hE 7 (by decide)).ext Od29.2))
  refine k_asR X30 hx hZ e30 7 (q := 55) rfl (hb hby at_54) Vk6 ⟨by decide, by decide⟩ (by decide) rfl St7 ?_
  intro T32 h32 X32 e32 W32 V32
  have K32 := Keep.of_wr W32
  have N32 := Fr.snoc X32 N28 ge_ar
  have Vk7 := V32.congr (own_fill 7)
  refine k_dup X32 hx (q := 56) rfl (hb hby at_55) rfl ?_
  refine k_bipush X32 hx (v := (8 : Int32)) rfl (q := 58) rfl (hb hby at_56) ?_
  have Od33 : Old Z n0 h32 := Old.keep Od29 K32 (allS ge_ar all0)
  refine k_getS X32 hx hZ (host := "") hown (Or.inl (hw _ (List.mem_of_getElem? (i := 20) rfl))) Via.refl e32 (v := (.ref (en 8))) (q := 61) rfl (hb hby at_58) ((hS 8 (by decide)).ext Od33.2) ?_
  intro T34 X34 e34
  have G35 := (G31.keep K32)
  have St8 := Sto.ofA Vk7 G35 O1 (Ins.self ((hE 8 (by decide)).ext Od33.2))
  refine k_asR X34 hx hZ e34 8 (q := 62) rfl (hb hby at_61) Vk7 ⟨by decide, by decide⟩ (by decide) rfl St8 ?_
  intro T36 h36 X36 e36 W36 V36
  have K36 := Keep.of_wr W36
  have N36 := Fr.snoc X36 N32 ge_ar
  have Vk8 := V36.congr (own_fill 8)
  refine k_dup X36 hx (q := 63) rfl (hb hby at_62) rfl ?_
  refine k_bipush X36 hx (v := (9 : Int32)) rfl (q := 65) rfl (hb hby at_63) ?_
  have Od37 : Old Z n0 h36 := Old.keep Od33 K36 (allS ge_ar all0)
  refine k_getS X36 hx hZ (host := "") hown (Or.inl (hw _ (List.mem_of_getElem? (i := 22) rfl))) Via.refl e36 (v := (.ref (en 9))) (q := 68) rfl (hb hby at_65) ((hS 9 (by decide)).ext Od37.2) ?_
  intro T38 X38 e38
  have G39 := (G35.keep K36)
  have St9 := Sto.ofA Vk8 G39 O1 (Ins.self ((hE 9 (by decide)).ext Od37.2))
  refine k_asR X38 hx hZ e38 9 (q := 69) rfl (hb hby at_68) Vk8 ⟨by decide, by decide⟩ (by decide) rfl St9 ?_
  intro T40 h40 X40 e40 W40 V40
  have K40 := Keep.of_wr W40
  have N40 := Fr.snoc X40 N36 ge_ar
  have Vk9 := V40.congr (own_fill 9)
  refine k_dup X40 hx (q := 70) rfl (hb hby at_69) rfl ?_
  refine k_bipush X40 hx (v := (10 : Int32)) rfl (q := 72) rfl (hb hby at_70) ?_
  have Od41 : Old Z n0 h40 := Old.keep Od37 K40 (allS ge_ar all0)
  refine k_getS X40 hx hZ (host := "") hown (Or.inl (hw _ (List.mem_of_getElem? (i := 24) rfl))) Via.refl e40 (v := (.ref (en 10))) (q := 75) rfl (hb hby at_72) ((hS 10 (by decide)).ext Od41.2) ?_
  intro T42 X42 e42
  have G43 := (G39.keep K40)
  have St10 := Sto.ofA Vk9 G43 O1 (Ins.self ((hE 10 (by decide)).ext Od41.2))
  refine k_asR X42 hx hZ e42 10 (q := 76) rfl (hb hby at_75) Vk9 ⟨by decide, by decide⟩ (by decide) rfl St10 ?_
  intro T44 h44 X44 e44 W44 V44
  have K44 := Keep.of_wr W44
  have N44 := Fr.snoc X44 N40 ge_ar
  have Vk10 := V44.congr (own_fill 10)
  refine k_dup X44 hx (q := 77) rfl (hb hby at_76) rfl ?_
  refine k_bipush X44 hx (v := (11 : Int32)) rfl (q := 79) rfl (hb hby at_77) ?_
  have Od45 : Old Z n0 h44 := Old.keep Od41 K44 (allS ge_ar all0)
  refine k_getS X44 hx hZ (host := "") hown (Or.inl (hw _ (List.mem_of_getElem? (i := 26) rfl))) Via.refl e44 (v := (.ref (en 11))) (q := 82) rfl (hb hby at_79) ((hS 11 (by decide)).ext Od45.2) ?_
  intro T46 X46 e46
  have G47 := (G43.keep K44)
  have St11 := Sto.ofA Vk10 G47 O1 (Ins.self ((hE 11 (by decide)).ext Od45.2))
  refine k_asR X46 hx hZ e46 11 (q := 83) rfl (hb hby at_82) Vk10 ⟨by decide, by decide⟩ (by decide) rfl St11 ?_
  intro T48 h48 X48 e48 W48 V48
  have K48 := Keep.of_wr W48
  have N48 := Fr.snoc X48 N44 ge_ar
  have Vk11 := V48.congr (own_fill 11)
  refine k_dup X48 hx (q := 84) rfl (hb hby at_83) rfl ?_
  refine k_bipush X48 hx (v := (12 : Int32)) rfl (q := 86) rfl (hb hby at_84) ?_
  have Od49 : Old Z n0 h48 := Old.keep Od45 K48 (allS ge_ar all0)
  refine k_getS X48 hx hZ (host := "") hown (Or.inl (hw _ (List.mem_of_getElem? (i := 28) rfl))) Via.refl e48 (v := (.ref (en 12))) (q := 89) rfl (hb hby at_86) ((hS 12 (by decide)).ext Od49.2) ?_
  intro T50 X50 e50
  have G51 := (G47.keep K48)
  have St12 := Sto.ofA Vk11 G51 O1 (Ins.self ((hE 12 (by decide)).ext Od49.2))
  refine k_asR X50 hx hZ e50 12 (q := 90) rfl (hb hby at_89) Vk11 ⟨by decide, by decide⟩ (by decide) rfl St12 ?_
  intro T52 h52 X52 e52 W52 V52
  have K52 := Keep.of_wr W52
  have N52 := Fr.snoc X52 N48 ge_ar
  have Vk12 := V52.congr (own_fill 12)
  refine k_dup X52 hx (q := 91) rfl (hb hby at_90) rfl ?_
  refine k_bipush X52 hx (v := (13 : Int32)) rfl (q := 93) rfl (hb hby at_91) ?_
  have Od53 : Old Z n0 h52 := Old.keep Od49 K52 (allS ge_ar all0)
  refine k_getS X52 hx hZ (host := "") hown (Or.inl (hw _ (List.mem_of_getElem? (i := 30) rfl))) Via.refl e52 (v := (.ref (en 13))) (q := 96) rfl (hb hby at_93) ((hS 13 (by decide)).ext Od53.2) ?_
  intro T54 X54 e54
  have G55 := (G51.keep K52)
  have St13 := Sto.ofA Vk12 G55 O1 (Ins.self ((hE 13 (by decide)).ext Od53.2))
  refine k_asR X54 hx hZ e54 13 (q := 97) rfl (hb hby at_96) Vk12 ⟨by decide, by decide⟩ (by decide) rfl St13 ?_
  intro T56 h56 X56 e56 W56 V56
  have K56 := Keep.of_wr W56
  have N56 := Fr.snoc X56 N52 ge_ar
  have Vk13 := V56.congr (own_fill 13)
  refine k_dup X56 hx (q := 98) rfl (hb hby at_97) rfl ?_
  refine k_bipush X56 hx (v := (14 : Int32)) rfl (q := 100) rfl (hb hby at_98) ?_
  have Od57 : Old Z n0 h56 := Old.keep Od53 K56 (allS ge_ar all0)
  refine k_getS X56 hx hZ (host := "") hown (Or.inl (hw _ (List.mem_of_getElem? (i := 32) rfl))) Via.refl e56 (v := (.ref (en 14))) (q := 103) rfl (hb hby at_100) ((hS 14 (by decide)).ext Od57.2) ?_
  intro T58 X58 e58
  have G59 := (G55.keep K56)
  have St14 := Sto.ofA Vk13 G59 O1 (Ins.self ((hE 14 (by decide)).ext Od57.2))
  refine k_asR X58 hx hZ e58 14 (q := 104) rfl (hb hby at_103) Vk13 ⟨by decide, by decide⟩ (by decide) rfl St14 ?_
  intro T60 h60 X60 e60 W60 V60
  have K60 := Keep.of_wr W60
  have N60 := Fr.snoc X60 N56 ge_ar
  have Vk14 := V60.congr (own_fill 14)
  refine k_dup X60 hx (q := 105) rfl (hb hby at_104) rfl ?_
  refine k_bipush X60 hx (v := (15 : Int32)) rfl (q := 107) rfl (hb hby at_105) ?_
  have Od61 : Old Z n0 h60 := Old.keep Od57 K60 (allS ge_ar all0)
  refine k_getS X60 hx hZ (host := "") hown (Or.inl (hw _ (List.mem_of_getElem? (i := 34) rfl))) Via.refl e60 (v := (.ref (en 15))) (q := 110) rfl (hb hby at_107) ((hS 15 (by decide)).ext Od61.2) ?_
  intro T62 X62 e62
  have G63 := (G59.keep K60)
  have St15 := Sto.ofA Vk14 G63 O1 (Ins.self ((hE 15 (by decide)).ext Od61.2))
  refine k_asR X62 hx hZ e62 15 (q := 111) rfl (hb hby at_110) Vk14 ⟨by decide, by decide⟩ (by decide) rfl St15 ?_
  intro T64 h64 X64 e64 W64 V64
  have K64 := Keep.of_wr W64
  have N64 := Fr.snoc X64 N60 ge_ar
  have Vk15 := V64.congr (own_fill 15)
  refine k_dup X64 hx (q := 112) rfl (hb hby at_111) rfl ?_
  refine k_bipush X64 hx (v := (16 : Int32)) rfl (q := 114) rfl (hb hby at_112) ?_
  have Od65 : Old Z n0 h64 := Old.keep Od61 K64 (allS ge_ar all0)
  refine k_getS X64 hx hZ (host := "") hown (Or.inl (hw _ (List.mem_of_getElem? (i := 36) rfl))) Via.refl e64 (v := (.ref (en 16))) (q := 117) rfl (hb hby at_114) ((hS 16 (by decide)).ext Od65.2) ?_
  intro T66 X66 e66
  have G67 := (G63.keep K64)
  have St16 := Sto.ofA Vk15 G67 O1 (Ins.self ((hE 16 (by decide)).ext Od65.2))
  refine k_asR X66 hx hZ e66 16 (q := 118) rfl (hb hby at_117) Vk15 ⟨by decide, by decide⟩ (by decide) rfl St16 ?_
  intro T68 h68 X68 e68 W68 V68
  have K68 := Keep.of_wr W68
  have N68 := Fr.snoc X68 N64 ge_ar
  have Vk16 := V68.congr (own_fill 16)
  refine k_dup X68 hx (q := 119) rfl (hb hby at_118) rfl ?_
  refine k_bipush X68 hx (v := (17 : Int32)) rfl (q := 121) rfl (hb hby at_119) ?_
  have Od69 : Old Z n0 h68 := Old.keep Od65 K68 (allS ge_ar all0)
  refine k_getS X68 hx hZ (host := "") hown (Or.inl (hw _ (List.mem_of_getElem? (i := 38) rfl))) Via.refl e68 (v := (.ref (en 17))) (q := 124) rfl (hb hby at_121) ((hS 17 (by decide)).ext Od69.2) ?_
  intro T70 X70 e70
  have G71 := (G67.keep K68)
  have St17 := Sto.ofA Vk16 G71 O1 (Ins.self ((hE 17 (by decide)).ext Od69.2))
  refine k_asR X70 hx hZ e70 17 (q := 125) rfl (hb hby at_124) Vk16 ⟨by decide, by decide⟩ (by decide) rfl St17 ?_
  intro T72 h72 X72 e72 W72 V72
  have K72 := Keep.of_wr W72
  have N72 := Fr.snoc X72 N68 ge_ar
  have Vk17 := V72.congr (own_fill 17)
  refine k_dup X72 hx (q := 126) rfl (hb hby at_125) rfl ?_
  refine k_bipush X72 hx (v := (18 : Int32)) rfl (q := 128) rfl (hb hby at_126) ?_
  have Od73 : Old Z n0 h72 := Old.keep Od69 K72 (allS ge_ar all0)
  refine k_getS X72 hx hZ (host := "") hown (Or.inl (hw _ (List.mem_of_getElem? (i := 40) rfl))) Via.refl e72 (v := (.ref (en 18))) (q := 131) rfl (hb hby at_128) ((hS 18 (by decide)).ext Od73.2) ?_
  intro T74 X74 e74
  have G75 := (G71.keep K72)
  have St18 := Sto.ofA Vk17 G75 O1 (Ins.self ((hE 18 (by decide)).ext Od73.2))
  refine k_asR X74 hx hZ e74 18 (q := 132) rfl (hb hby at_131) Vk17 ⟨by decide, by decide⟩ (by decide) rfl St18 ?_
  intro T76 h76 X76 e76 W76 V76
  have K76 := Keep.of_wr W76
  have N76 := Fr.snoc X76 N72 ge_ar
  have Vk18 := V76.congr (own_fill 18)
  refine k_dup X76 hx (q := 133) rfl (hb hby at_132) rfl ?_
  refine k_bipush X76 hx (v := (19 : Int32)) rfl (q := 135) rfl (hb hby at_133) ?_
  have Od77 : Old Z n0 h76 := Old.keep Od73 K76 (allS ge_ar all0)
  refine k_getS X76 hx hZ (host := "") hown (Or.inl (hw _ (List.mem_of_getElem? (i := 42) rfl))) Via.refl e76 (v := (.ref (en 19))) (q := 138) rfl (hb hby at_135) ((hS 19 (by decide)).ext Od77.2) ?_
  intro T78 X78 e78
  have G79 := (G75.keep K76)
  have St19 := Sto.ofA Vk18 G79 O1 (Ins.self ((hE 19 (by decide)).ext Od77.2))
  refine k_asR X78 hx hZ e78 19 (q := 139) rfl (hb hby at_138) Vk18 ⟨by decide, by decide⟩ (by decide) rfl St19 ?_
  intro T80 h80 X80 e80 W80 V80
  have K80 := Keep.of_wr W80
  have N80 := Fr.snoc X80 N76 ge_ar
  have Vk19 := V80.congr (own_fill 19)
  refine k_dup X80 hx (q := 140) rfl (hb hby at_139) rfl ?_
  refine k_bipush X80 hx (v := (20 : Int32)) rfl (q := 142) rfl (hb hby at_140) ?_
  have Od81 : Old Z n0 h80 := Old.keep Od77 K80 (allS ge_ar all0)
  refine k_getS X80 hx hZ (host := "") hown (Or.inl (hw _ (List.mem_of_getElem? (i := 44) rfl))) Via.refl e80 (v := (.ref (en 20))) (q := 145) rfl (hb hby at_142) ((hS 20 (by decide)).ext Od81.2) ?_
  intro T82 X82 e82
  have G83 := (G79.keep K80)
  have St20 := Sto.ofA Vk19 G83 O1 (Ins.self ((hE 20 (by decide)).ext Od81.2))
  refine k_asR X82 hx hZ e82 20 (q := 146) rfl (hb hby at_145) Vk19 ⟨by decide, by decide⟩ (by decide) rfl St20 ?_
  intro T84 h84 X84 e84 W84 V84
  have K84 := Keep.of_wr W84
  have N84 := Fr.snoc X84 N80 ge_ar
  have Vk20 := V84.congr (own_fill 20)
  obtain ⟨i, hi, hix⟩ := own_ix x0
  refine k_astoreN X84 hx (L' := #[.val (.int x0), .val (.ref ar), .unset, .unset]) (q := 147) rfl (hb hby at_146) rfl rfl ?_
  refine k_iloadN X84 hx (q := 148) rfl (hb hby at_147) rfl ?_
  refine k_ldcI X84 hx hZ (v := (2147483647 : Int32)) hown (hw _ (List.mem_of_getElem? (i := 46) rfl)) (q := 150) rfl (hb hby at_148) ?_
  refine k_iand X84 hx (q := 151) rfl (hb hby at_150) ?_
  refine k_bipush X84 hx (v := (21 : Int32)) rfl (q := 153) rfl (hb hby at_151) ?_
  refine k_irem X84 hx (q := 154) rfl (hb hby at_153) (by decide) ?_
  refine k_istoreN X84 hx (L' := #[.val (.int x0), .val (.ref ar), .val (.int ((x0 &&& (2147483647 : Int32)) % (21 : Int32))), .unset]) (q := 155) rfl (hb hby at_154) rfl ?_
  generalize hj : ((x0 &&& (2147483647 : Int32)) % (21 : Int32)) = j
  rw [hj] at hix
  have J85 : ∀ (r : Int32), (r = own_al i) → End p e below s (fun v h L => v = some (.int 1) ∧ Fr n0 L) room_1.cells room_1.slots (T84.setTop (mkF m 178 #[.val (.int x0), .val (.ref ar), .val (.int j), .unset] [(.int r)])) := by
    intro r hr
    refine k_istoreN X84 hx (L' := #[.val (.int x0), .val (.ref ar), .val (.int j), .val (.int r)]) (q := 179) rfl (hb hby at_178) rfl ?_
    refine k_aloadN X84 hx (q := 180) rfl (hb hby at_179) rfl rfl ?_
    refine k_iloadN X84 hx (q := 181) rfl (hb hby at_180) rfl ?_
    refine k_arR X84 hx hZ e84 (x := (.ref (en i))) i (q := 182) rfl (hb hby at_181) Vk20 rfl hix hi (by rw [if_pos hi]) ?_
    have Od89 : Old Z n0 h84 := Old.keep Od81 K84 (allS ge_ar all0)
    refine k_callV X84 hx hZ (y := (⟨"com/example/bones_of_bytecode/bonesofbytecode/MapItemType", "aligned", "()Z"⟩ : MethodName)) (z := (⟨"com/example/bones_of_bytecode/bonesofbytecode/MapItemType", "aligned", "()Z"⟩ : MethodName)) hown (hw _ (List.mem_of_getElem? (i := 47) rfl)) (hw _ (List.mem_of_getElem? (i := 48) rfl)) (notFace_of_selects (args := #[]) (mvT hZ (hw _ (List.mem_of_getElem? (i := 50) rfl)))) (hw _ (List.mem_of_getElem? (i := 50) rfl)) (hw _ (List.mem_of_getElem? (i := 49) rfl)) (hw _ (List.mem_of_getElem? (i := 51) rfl)) (hw _ (List.mem_of_getElem? (i := 3) rfl)) (by decide) ((hE i hi).ext Od89.2) 0 e84 (rm1 l Z a0 hw (en i) h84 n0 en i hi rfl inj (fun i hi => (hS i hi).ext Od89.2)) (by decide) (by decide) (by decide) (by decide) (by rw [hml]; rfl) (a := (en i)) (as := []) (rest := []) pd_0 rfl (by first | exact Nat.le_refl _ | simp [Value.category]) (q := 185) rfl (hb hby at_182) ?_
    rintro _ T90 L90 X90 ⟨rfl, N90q, e90⟩
    have N90 := Fr.app N84 N90q
    show End _ _ _ _ _ _ _ (T90.setTop (mkF m 185 #[.val (.int x0), .val (.ref ar), .val (.int j), .val (.int r)] [(.int (own_al i))]))
    refine k_iloadN X90 hx (q := 186) rfl (hb hby at_185) rfl ?_
    refine k_icmp_ne X90 hx (q1 := 193) (q := 189) (by decide) (by decide) rfl (hb hby at_186) (fun hc => absurd hr.symm hc) (fun _ => ?_)
    refine k_iconst X90 hx (v := (1 : Int32)) rfl (q := 190) rfl (hb hby at_189) ?_
    refine k_goto X90 hx (q := 194) (by decide) (by decide) (hb hby at_190) ?_
    exact k_retN X90 hx (t := .boolean) hlk (by decide) (by decide) hret (by simp) (hb hby at_194) ⟨rfl, N90⟩
  refine k_iloadN X84 hx (q := 156) rfl (hb hby at_155) rfl ?_
  refine k_bipush X84 hx (v := (13 : Int32)) rfl (q := 158) rfl (hb hby at_156) ?_
  refine k_icmp_eq X84 hx (q1 := 177) (q := 161) (by decide) (by decide) rfl (hb hby at_158) (fun hc86 => ?_) (fun hc86 => ?_)
  · refine k_iconst X84 hx (v := (0 : Int32)) rfl (q := 178) rfl (hb hby at_177) ?_
    exact J85 _ (by have := (own_lt hix 13 13 (by decide)).2.2.mp hc86; subst this; rfl)
  · refine k_iloadN X84 hx (q := 162) rfl (hb hby at_161) rfl ?_
    refine k_bipush X84 hx (v := (15 : Int32)) rfl (q := 164) rfl (hb hby at_162) ?_
    refine k_icmp_lt X84 hx (q1 := 173) (q := 167) (by decide) (by decide) rfl (hb hby at_164) (fun hc87 => ?_) (fun hc87 => ?_)
    · refine k_iconst X84 hx (v := (1 : Int32)) rfl (q := 174) rfl (hb hby at_173) ?_
      refine k_goto X84 hx (q := 178) (by decide) (by decide) (hb hby at_174) ?_
      exact J85 _ (by
        have e1 := mt (own_lt hix 13 13 (by decide)).2.2.mpr hc86
        have e2 := (own_lt hix 15 15 (by decide)).1.mp hc87
        simp only [own_al, if_neg e1, if_neg (show ¬ i = 15 by omega), if_neg (show ¬ i = 16 by omega), if_neg (show ¬ i = 17 by omega), if_neg (show ¬ i = 18 by omega)])
    · refine k_iloadN X84 hx (q := 168) rfl (hb hby at_167) rfl ?_
      refine k_bipush X84 hx (v := (18 : Int32)) rfl (q := 170) rfl (hb hby at_168) ?_
      refine k_icmp_le X84 hx (q1 := 177) (q := 173) (by decide) (by decide) rfl (hb hby at_170) (fun hc88 => ?_) (fun hc88 => ?_)
      · refine k_iconst X84 hx (v := (0 : Int32)) rfl (q := 178) rfl (hb hby at_177) ?_
        exact J85 _ (by
          have e2 := mt (own_lt hix 15 15 (by decide)).1.mpr hc87
          have e3 := mt (own_lt hix 18 18 (by decide)).2.1.mpr hc88
          have : i = 15 ∨ i = 16 ∨ i = 17 ∨ i = 18 := by omega
          rcases this with rfl | rfl | rfl | rfl <;> rfl)
      · refine k_iconst X84 hx (v := (1 : Int32)) rfl (q := 174) rfl (hb hby at_173) ?_
        refine k_goto X84 hx (q := 178) (by decide) (by decide) (hb hby at_174) ?_
        exact J85 _ (by
          have e1 := mt (own_lt hix 13 13 (by decide)).2.2.mpr hc86
          have e3 := (own_lt hix 18 18 (by decide)).2.1.mp hc88
          simp only [own_al, if_neg e1, if_neg (show ¬ i = 15 by omega), if_neg (show ¬ i = 16 by omega), if_neg (show ¬ i = 17 by omega), if_neg (show ¬ i = 18 by omega)])
theorem own_each {P : Nat → Prop} (p0 : P 0) (p1 : P 1) (p2 : P 2) (p3 : P 3) (p4 : P 4) (p5 : P 5) (p6 : P 6) (p7 : P 7) (p8 : P 8) (p9 : P 9) (p10 : P 10) (p11 : P 11) (p12 : P 12) (p13 : P 13) (p14 : P 14) (p15 : P 15) (p16 : P 16) (p17 : P 17) (p18 : P 18) (p19 : P 19) (p20 : P 20) : ∀ i, i < 21 → P i := by
  intro i hi
  have : i = 0 ∨ i = 1 ∨ i = 2 ∨ i = 3 ∨ i = 4 ∨ i = 5 ∨ i = 6 ∨ i = 7 ∨ i = 8 ∨ i = 9 ∨ i = 10 ∨ i = 11 ∨ i = 12 ∨ i = 13 ∨ i = 14 ∨ i = 15 ∨ i = 16 ∨ i = 17 ∨ i = 18 ∨ i = 19 ∨ i = 20 := by omega
  rcases this with rfl | rfl | rfl | rfl | rfl | rfl | rfl | rfl | rfl | rfl | rfl | rfl | rfl | rfl | rfl | rfl | rfl | rfl | rfl | rfl | rfl <;> assumption
theorem own_ord {args : Array Value} {s : State} {t : Term} {a : Addr} {k : Int32} (v : t.eval args s none [] s = some (.ref a)) (h : (Cond.eq (.field t "java/lang/Enum" "ordinal" "I") (.int k)).value args s none s [] = some true) : Fld s s.heap a "java/lang/Enum" "ordinal" "I" (.int k) := by
  obtain ⟨x, y, h1, h2, h3, h4⟩ := cmp_v (Or.inl h)
  rw [fld_at v] at h1
  rw [Term.int_eval] at h2
  cases h2
  obtain ⟨z, rfl⟩ : ∃ z, x = .int z := by cases x <;> simp [Kin, Value.isRef] at h4 ⊢
  have e : (Cond.eq (.field t "java/lang/Enum" "ordinal" "I") (.int k)).value args s none s [] = some (decide (z = k)) := by simp [Cond.value, Term.eval, v, h1]
  have := gotT e h
  subst this
  exact Fld.start h1
theorem own_inj {s : State} {cc : Nat → Addr} (hO : ∀ i, i < 21 → Fld s s.heap (cc i) "java/lang/Enum" "ordinal" "I" (.int (Int32.ofNat i))) : ∀ i j, i < 21 → j < 21 → cc i = cc j → i = j := by
  intro i j hi hj h
  by_cases q : i = j
  · exact q
  · have e : Value.int (Int32.ofNat i) ≠ .int (Int32.ofNat j) := by
      intro r
      have r := Value.int.inj r
      have r := congrArg Int32.toInt r
      rw [Int32.toInt_ofNat_of_lt (by omega), Int32.toInt_ofNat_of_lt (by omega)] at r
      omega
    exact absurd h (Fld.ne (hO i hi) (hO j hj) e)
set_option maxRecDepth 65536 in
set_option maxHeartbeats 40000000 in
theorem comes_1 {Post : Tables → Env → Array Value → State → Outcome → State → Prop} (hpost : ∀ tb e args s v u, (limb_1_1.after args s (.returned v) u = true ∧ limb_1_2.after args s (.returned v) u = true ∧ True) → FrameEnd s (.returned v) u (Jvm.fieldLocs frame_1_writes args s ++ Jvm.arrayLocs frame_1_arrays args s ++ Jvm.staticLocs frame_1_statics s) 16 128 → Post tb e args s (.returned v) u) :
    ArmFor flags0 classFile x code maxLocals ret World_1 tables_1 room_1 Calls_1 rest_1 Pre_1 Post := by
  intro l hfl _ _ p e ha hc hk s m args below hf hA hF happ hP
  obtain ⟨hcalls, hrest, hpre⟩ := hP
  obtain ⟨-, -, -, hnamed, -, -, -, hat⟩ := (Spec.applies_iff hf).mp happ
  obtain ⟨hg, hn⟩ := and_e (Cond.before_iff.mp (show (Jvm.Cond.and given_1 narrow_1).before args s = true from hpre))
  obtain ⟨gc, g0⟩ := and_e hg
  obtain ⟨w0, rfl⟩ : ∃ w0 : Value, args = #[w0] := by
    have hs : args.size = 1 := by simpa [Cond.value, given_1] using gc
    obtain ⟨L⟩ := args
    match L, hs with
    | [w0], _ => exact ⟨w0, rfl⟩
  have hw := fun d (hd : d ∈ tables_1) => atoms_spec (ws := Jvm.Cond.code x code maxLocals ret :: tables_1) hat d (List.mem_cons_of_mem _ hd)
  have hfit : Fit s := fun {y c} hc i hi => by
    obtain ⟨ha, rfl⟩ := Array.getElem?_eq_some_iff.mp hc
    have q := List.all_eq_true.mp ((Array.all_eq_true_iff_forall_mem.mp hF) _ (Array.getElem_mem ha)) i (List.mem_range.mpr hi)
    simpa [Array.getElem?_eq_getElem hi] using q
  obtain ⟨i0, ei0⟩ := is_v g0
  obtain rfl : w0 = (.int i0) := Option.some.inj ei0
  have hn := show narrow_1.value _ s none s [] = some true from hn
  unfold narrow_1 at hn
  obtain ⟨c0, d0⟩ := and_e hn
  obtain ⟨c1, d1⟩ := and_e d0
  obtain ⟨c2, d2⟩ := and_e d1
  obtain ⟨c3, d3⟩ := and_e d2
  obtain ⟨c4, d4⟩ := and_e d3
  obtain ⟨c5, d5⟩ := and_e d4
  obtain ⟨c6, d6⟩ := and_e d5
  obtain ⟨c7, d7⟩ := and_e d6
  obtain ⟨c8, d8⟩ := and_e d7
  obtain ⟨c9, d9⟩ := and_e d8
  obtain ⟨c10, d10⟩ := and_e d9
  obtain ⟨c11, d11⟩ := and_e d10
  obtain ⟨c12, d12⟩ := and_e d11
  obtain ⟨c13, d13⟩ := and_e d12
  obtain ⟨c14, d14⟩ := and_e d13
  obtain ⟨c15, d15⟩ := and_e d14
  obtain ⟨c16, d16⟩ := and_e d15
  obtain ⟨c17, d17⟩ := and_e d16
  obtain ⟨c18, d18⟩ := and_e d17
  obtain ⟨c19, d19⟩ := and_e d18
  obtain ⟨c20, d20⟩ := and_e d19
  obtain ⟨c21, d21⟩ := and_e d20
  obtain ⟨c22, d22⟩ := and_e d21
  obtain ⟨c23, d23⟩ := and_e d22
  obtain ⟨c24, d24⟩ := and_e d23
  obtain ⟨c25, d25⟩ := and_e d24
  obtain ⟨c26, d26⟩ := and_e d25
  obtain ⟨c27, d27⟩ := and_e d26
  obtain ⟨c28, d28⟩ := and_e d27
  obtain ⟨c29, d29⟩ := and_e d28
  obtain ⟨c30, d30⟩ := and_e d29
  obtain ⟨c31, d31⟩ := and_e d30
  obtain ⟨c32, d32⟩ := and_e d31
  obtain ⟨c33, d33⟩ := and_e d32
  obtain ⟨c34, d34⟩ := and_e d33
  obtain ⟨c35, d35⟩ := and_e d34
  obtain ⟨c36, d36⟩ := and_e d35
  obtain ⟨c37, d37⟩ := and_e d36
  obtain ⟨c38, d38⟩ := and_e d37
  obtain ⟨c39, d39⟩ := and_e d38
  obtain ⟨c40, d40⟩ := and_e d39
  have c41 := d40
  obtain ⟨b0, v0⟩ := exa_v c0
  have X0 := Exa.start v0 c0
  have S0 := Sta.start v0 (Or.inr ⟨(hw _ (List.mem_of_getElem? (i := 3) rfl)), (hw _ (List.mem_of_getElem? (i := 4) rfl))⟩)
  obtain ⟨b1, v1⟩ := exa_v c1
  have X1 := Exa.start v1 c1
  have S1 := Sta.start v1 (Or.inr ⟨(hw _ (List.mem_of_getElem? (i := 3) rfl)), (hw _ (List.mem_of_getElem? (i := 7) rfl))⟩)
  obtain ⟨b2, v2⟩ := exa_v c2
  have X2 := Exa.start v2 c2
  have S2 := Sta.start v2 (Or.inr ⟨(hw _ (List.mem_of_getElem? (i := 3) rfl)), (hw _ (List.mem_of_getElem? (i := 9) rfl))⟩)
  obtain ⟨b3, v3⟩ := exa_v c3
  have X3 := Exa.start v3 c3
  have S3 := Sta.start v3 (Or.inr ⟨(hw _ (List.mem_of_getElem? (i := 3) rfl)), (hw _ (List.mem_of_getElem? (i := 11) rfl))⟩)
  obtain ⟨b4, v4⟩ := exa_v c4
  have X4 := Exa.start v4 c4
  have S4 := Sta.start v4 (Or.inr ⟨(hw _ (List.mem_of_getElem? (i := 3) rfl)), (hw _ (List.mem_of_getElem? (i := 13) rfl))⟩)
  obtain ⟨b5, v5⟩ := exa_v c5
  have X5 := Exa.start v5 c5
  have S5 := Sta.start v5 (Or.inr ⟨(hw _ (List.mem_of_getElem? (i := 3) rfl)), (hw _ (List.mem_of_getElem? (i := 15) rfl))⟩)
  obtain ⟨b6, v6⟩ := exa_v c6
  have X6 := Exa.start v6 c6
  have S6 := Sta.start v6 (Or.inr ⟨(hw _ (List.mem_of_getElem? (i := 3) rfl)), (hw _ (List.mem_of_getElem? (i := 17) rfl))⟩)
  obtain ⟨b7, v7⟩ := exa_v c7
  have X7 := Exa.start v7 c7
  have S7 := Sta.start v7 (Or.inr ⟨(hw _ (List.mem_of_getElem? (i := 3) rfl)), (hw _ (List.mem_of_getElem? (i := 19) rfl))⟩)
  obtain ⟨b8, v8⟩ := exa_v c8
  have X8 := Exa.start v8 c8
  have S8 := Sta.start v8 (Or.inr ⟨(hw _ (List.mem_of_getElem? (i := 3) rfl)), (hw _ (List.mem_of_getElem? (i := 21) rfl))⟩)
  obtain ⟨b9, v9⟩ := exa_v c9
  have X9 := Exa.start v9 c9
  have S9 := Sta.start v9 (Or.inr ⟨(hw _ (List.mem_of_getElem? (i := 3) rfl)), (hw _ (List.mem_of_getElem? (i := 23) rfl))⟩)
  obtain ⟨b10, v10⟩ := exa_v c10
  have X10 := Exa.start v10 c10
  have S10 := Sta.start v10 (Or.inr ⟨(hw _ (List.mem_of_getElem? (i := 3) rfl)), (hw _ (List.mem_of_getElem? (i := 25) rfl))⟩)
  obtain ⟨b11, v11⟩ := exa_v c11
  have X11 := Exa.start v11 c11
  have S11 := Sta.start v11 (Or.inr ⟨(hw _ (List.mem_of_getElem? (i := 3) rfl)), (hw _ (List.mem_of_getElem? (i := 27) rfl))⟩)
  obtain ⟨b12, v12⟩ := exa_v c12
  have X12 := Exa.start v12 c12
  have S12 := Sta.start v12 (Or.inr ⟨(hw _ (List.mem_of_getElem? (i := 3) rfl)), (hw _ (List.mem_of_getElem? (i := 29) rfl))⟩)
  obtain ⟨b13, v13⟩ := exa_v c13
  have X13 := Exa.start v13 c13
  have S13 := Sta.start v13 (Or.inr ⟨(hw _ (List.mem_of_getElem? (i := 3) rfl)), (hw _ (List.mem_of_getElem? (i := 31) rfl))⟩)
  obtain ⟨b14, v14⟩ := exa_v c14
  have X14 := Exa.start v14 c14
  have S14 := Sta.start v14 (Or.inr ⟨(hw _ (List.mem_of_getElem? (i := 3) rfl)), (hw _ (List.mem_of_getElem? (i := 33) rfl))⟩)
  obtain ⟨b15, v15⟩ := exa_v c15
  have X15 := Exa.start v15 c15
  have S15 := Sta.start v15 (Or.inr ⟨(hw _ (List.mem_of_getElem? (i := 3) rfl)), (hw _ (List.mem_of_getElem? (i := 35) rfl))⟩)
  obtain ⟨b16, v16⟩ := exa_v c16
  have X16 := Exa.start v16 c16
  have S16 := Sta.start v16 (Or.inr ⟨(hw _ (List.mem_of_getElem? (i := 3) rfl)), (hw _ (List.mem_of_getElem? (i := 37) rfl))⟩)
  obtain ⟨b17, v17⟩ := exa_v c17
  have X17 := Exa.start v17 c17
  have S17 := Sta.start v17 (Or.inr ⟨(hw _ (List.mem_of_getElem? (i := 3) rfl)), (hw _ (List.mem_of_getElem? (i := 39) rfl))⟩)
  obtain ⟨b18, v18⟩ := exa_v c18
  have X18 := Exa.start v18 c18
  have S18 := Sta.start v18 (Or.inr ⟨(hw _ (List.mem_of_getElem? (i := 3) rfl)), (hw _ (List.mem_of_getElem? (i := 41) rfl))⟩)
  obtain ⟨b19, v19⟩ := exa_v c19
  have X19 := Exa.start v19 c19
  have S19 := Sta.start v19 (Or.inr ⟨(hw _ (List.mem_of_getElem? (i := 3) rfl)), (hw _ (List.mem_of_getElem? (i := 43) rfl))⟩)
  obtain ⟨b20, v20⟩ := exa_v c20
  have X20 := Exa.start v20 c20
  have S20 := Sta.start v20 (Or.inr ⟨(hw _ (List.mem_of_getElem? (i := 3) rfl)), (hw _ (List.mem_of_getElem? (i := 45) rfl))⟩)
  have F0 := own_ord v0 c21
  have F13 := own_ord v13 c22
  have F15 := own_ord v15 c23
  have F16 := own_ord v16 c24
  have F17 := own_ord v17 c25
  have F18 := own_ord v18 c26
  have F3 := own_ord v3 c27
  have F5 := own_ord v5 c28
  have F6 := own_ord v6 c29
  have F11 := own_ord v11 c30
  have F7 := own_ord v7 c31
  have F2 := own_ord v2 c32
  have F10 := own_ord v10 c33
  have F8 := own_ord v8 c34
  have F1 := own_ord v1 c35
  have F14 := own_ord v14 c36
  have F9 := own_ord v9 c37
  have F19 := own_ord v19 c38
  have F20 := own_ord v20 c39
  have F4 := own_ord v4 c40
  have F12 := own_ord v12 c41
  let cc : Nat → Addr := fun i => [b0, b1, b2, b3, b4, b5, b6, b7, b8, b9, b10, b11, b12, b13, b14, b15, b16, b17, b18, b19, b20].getD i 0
  have hS : ∀ i, i < 21 → Sta s s.heap "com/example/bones_of_bytecode/bonesofbytecode/MapItemType" (own_nm i) "Lcom/example/bones_of_bytecode/bonesofbytecode/MapItemType;" (.ref (cc i)) := own_each S0 S1 S2 S3 S4 S5 S6 S7 S8 S9 S10 S11 S12 S13 S14 S15 S16 S17 S18 S19 S20
  have hE : ∀ i, i < 21 → Exa s s.heap (cc i) "com/example/bones_of_bytecode/bonesofbytecode/MapItemType" := own_each X0 X1 X2 X3 X4 X5 X6 X7 X8 X9 X10 X11 X12 X13 X14 X15 X16 X17 X18 X19 X20
  have hO : ∀ i, i < 21 → Fld s s.heap (cc i) "java/lang/Enum" "ordinal" "I" (.int (Int32.ofNat i)) := own_each F0 F1 F2 F3 F4 F5 F6 F7 F8 F9 F10 F11 F12 F13 F14 F15 F16 F17 F18 F19 F20
  have inj : ∀ i j, i < 21 → j < 21 → cc i = cc j → i = j := own_inj hO
  obtain ⟨n, o, h1, h2, h3, _, L, rfl, ⟨rfl, N⟩, hq⟩ := rmL l s _ hw i0 s.heap s.heap.size (Nat.le_refl _) (Old.start s) cc inj hS hE p e ha hc hk s m _ below hf ((Spec.applies_iff_loose hf).mp happ).1 ⟨rfl, State.Warmed39.refl s, rfl⟩ trivial
  refine ⟨n, _, h1, h2, h3, hpost _ _ _ _ _ _ ⟨Cond.after_iff.mpr rfl, Cond.after_iff.mpr (eq_i res_at (Term.int_eval (1)) rfl), trivial⟩ ⟨hq.1, hq.2.1, (hq.2.2.sift fun y hy => Or.inr (N y hy)).mono (by decide) (by decide)⟩⟩
theorem main_1_1 : Claimed_1_1 := comes_1 fun _ _ _ _ _ _ h hF => ⟨h.1, hF⟩
theorem main_1_2 : Claimed_1_2 := comes_1 fun _ _ _ _ _ _ h hF => ⟨h.2.1, hF⟩
end Jvm.Pilot.@@N@@
namespace Jvm.Pilot.@@N@@
open Jvm Jvm.ClassFile Sem Op Lib Jvm.Free Jvm.Stand Jvm.Pilot.@@N@@.Jvm.D
/-! MADE BY PROGRAM (witnessworld.py) out of the Statement's table words and the real class files: 13 classes; the members and pool entries that the words name. The judged class is class 1, her method 1. -/
namespace start1
open Jvm.ClassFile
def u (s : String) : CpInfo := .utf8 (stringToUtf16 s)
/-- a pool by its gaps: so many unusable entries, then the entry; so many at the end -/
def gap : Nat → List CpInfo → List CpInfo
  | 0, r => r
  | n + 1, r => .unusable :: gap n r
def poolList (es : List (Nat × CpInfo)) (last : Nat) : List CpInfo := es.foldr (fun e r => gap e.1 (e.2 :: r)) (gap last [])
def pool (es : List (Nat × CpInfo)) (last : Nat) : Array CpInfo := ⟨poolList es last⟩
def fileOf (pool : Array CpInfo) (this : Nat) (attrs : Array Attribute := #[]) (ms : Array MethodInfo := #[]) (fl : Nat := 33) (sup : Nat := 0) (ifs : Array Nat := #[]) (fds : Array FieldInfo := #[]) : ClassFile where
  minorVersion := 0
  majorVersion := 65
  constantPool := pool
  accessFlags := fl
  thisClass := this
  superClass := sup
  interfaces := ifs
  fields := fds
  methods := ms
  attributes := attrs
def plain (name : String) (sup : Option ClassId) : Class where
  name := name
  kind := .ordinary
  loader := none
  accessFlags := 33
  super := sup
  interfaces := #[]
  cf := none
  fields := #[]
  methods := #[]
  instanceTypes := #[]
  staticTypes := #[]
  resolved := #[]
  callSites := []
  init := .initialized
  statics := none
  mirror := none

def pool0 : Array CpInfo := pool [(5, u "<init>"), (0, u "()V"), (1, .class_ 10), (1, u "java/lang/Object")] 113

def k0m0 : Method := { name := "<init>", desc := "()V", sig := { parameters := [], returnType := none }, accessFlags := 1, code := none }
/-- java/lang/Object -/
def k0 : Class := { plain "java/lang/Object" none with
  accessFlags := 33
  interfaces := #[]
  cf := some (fileOf pool0 8 #[] #[{ accessFlags := 1, nameIndex := 5, descriptorIndex := 6, attributes := #[] }] 33 0 #[] #[])
  fields := #[]
  methods := #[k0m0]
  instanceTypes := #[]
  staticTypes := #[]
  resolved := Array.replicate 124 none
  statics := none }

def pool1 : Array CpInfo := pool [(2, .class_ 4), (1, u "java/lang/Object"), (0, u "<init>"), (0, u "()V"), (0, .class_ 8), (0, u "com/example/bones_of_bytecode/bonesofbytecode/MapItemType"), (0, .fieldref 7 10), (0, .nameAndType 11 12), (0, u "HEADER_ITEM"), (0, u "Lcom/example/bones_of_bytecode/bonesofbytecode/MapItemType;"), (0, .fieldref 7 14), (0, .nameAndType 15 12), (0, u "STRING_ID_ITEM"), (0, .fieldref 7 17), (0, .nameAndType 18 12), (0, u "TYPE_ID_ITEM"), (0, .fieldref 7 20), (0, .nameAndType 21 12), (0, u "PROTO_ID_ITEM"), (0, .fieldref 7 23), (0, .nameAndType 24 12), (0, u "FIELD_ID_ITEM"), (0, .fieldref 7 26), (0, .nameAndType 27 12), (0, u "METHOD_ID_ITEM"), (0, .fieldref 7 29), (0, .nameAndType 30 12), (0, u "CLASS_DEF_ITEM"), (0, .fieldref 7 32), (0, .nameAndType 33 12), (0, u "CALL_SITE_ID_ITEM"), (0, .fieldref 7 35), (0, .nameAndType 36 12), (0, u "METHOD_HANDLE_ITEM"), (0, .fieldref 7 38), (0, .nameAndType 39 12), (0, u "MAP_LIST"), (0, .fieldref 7 41), (0, .nameAndType 42 12), (0, u "TYPE_LIST"), (0, .fieldref 7 44), (0, .nameAndType 45 12), (0, u "ANNOTATION_SET_REF_LIST"), (0, .fieldref 7 47), (0, .nameAndType 48 12), (0, u "ANNOTATION_SET_ITEM"), (0, .fieldref 7 50), (0, .nameAndType 51 12), (0, u "CLASS_DATA_ITEM"), (0, .fieldref 7 53), (0, .nameAndType 54 12), (0, u "CODE_ITEM"), (0, .fieldref 7 56), (0, .nameAndType 57 12), (0, u "STRING_DATA_ITEM"), (0, .fieldref 7 59), (0, .nameAndType 60 12), (0, u "DEBUG_INFO_ITEM"), (0, .fieldref 7 62), (0, .nameAndType 63 12), (0, u "ANNOTATION_ITEM"), (0, .fieldref 7 65), (0, .nameAndType 66 12), (0, u "ENCODED_ARRAY_ITEM"), (0, .fieldref 7 68), (0, .nameAndType 69 12), (0, u "ANNOTATIONS_DIRECTORY_ITEM"), (0, .fieldref 7 71), (0, .nameAndType 72 12), (0, u "HIDDENAPI_CLASS_DATA_ITEM"), (0, .integer 2147483647), (0, .methodref 7 75), (0, .nameAndType 76 77), (0, u "aligned"), (0, u "()Z"), (0, .class_ 79), (0, u "com/example/bones_of_bytecode/bonesofbytecode/MapItemTypeAlignedPinLaw"), (2, u "law"), (0, u "(I)Z")] 5

def k1m0 : Method := { name := "<init>", desc := "()V", sig := { parameters := [], returnType := none }, accessFlags := 1, code := none }
def k1c1 : Code := { maxStack := 4, maxLocals := 4, code := code, exceptionTable := #[], attributes := #[] }
def k1m1 : Method := { name := "law", desc := "(I)Z", sig := { parameters := [.int], returnType := some .boolean }, accessFlags := 9, code := some k1c1 }
/-- com/example/bones_of_bytecode/bonesofbytecode/MapItemTypeAlignedPinLaw -/
def k1 : Class := { plain "com/example/bones_of_bytecode/bonesofbytecode/MapItemTypeAlignedPinLaw" (some 0) with
  accessFlags := 49
  interfaces := #[]
  cf := some (fileOf pool1 78 #[] #[{ accessFlags := 1, nameIndex := 5, descriptorIndex := 6, attributes := #[] }, { accessFlags := 9, nameIndex := 82, descriptorIndex := 83, attributes := #[] }] 49 2 #[] #[])
  fields := #[]
  methods := #[k1m0, k1m1]
  instanceTypes := #[]
  staticTypes := #[]
  resolved := Array.replicate 89 none
  statics := none }

def pool2 : Array CpInfo := pool [(1, .class_ 2), (0, u "java/lang/constant/Constable"), (0, .class_ 4), (0, u "java/lang/Object")] 6

/-- java/lang/constant/Constable -/
def k2 : Class := { plain "java/lang/constant/Constable" (some 0) with
  accessFlags := 1537
  interfaces := #[]
  cf := some (fileOf pool2 1 #[] #[] 1537 3 #[] #[])
  fields := #[]
  methods := #[]
  instanceTypes := #[]
  staticTypes := #[]
  resolved := Array.replicate 11 none
  statics := none }

def pool3 : Array CpInfo := pool [(1, .class_ 2), (0, u "java/lang/Comparable"), (0, .class_ 4), (0, u "java/lang/Object")] 7

/-- java/lang/Comparable -/
def k3 : Class := { plain "java/lang/Comparable" (some 0) with
  accessFlags := 1537
  interfaces := #[]
  cf := some (fileOf pool3 1 #[] #[] 1537 3 #[] #[])
  fields := #[]
  methods := #[]
  instanceTypes := #[]
  staticTypes := #[]
  resolved := Array.replicate 12 none
  statics := none }

def pool4 : Array CpInfo := pool [(1, .class_ 2), (0, u "java/io/Serializable"), (0, .class_ 4), (0, u "java/lang/Object")] 2

/-- java/io/Serializable -/
def k4 : Class := { plain "java/io/Serializable" (some 0) with
  accessFlags := 1537
  interfaces := #[]
  cf := some (fileOf pool4 1 #[] #[] 1537 3 #[] #[])
  fields := #[]
  methods := #[]
  instanceTypes := #[]
  staticTypes := #[]
  resolved := Array.replicate 7 none
  statics := none }

def pool5 : Array CpInfo := pool [(2, .class_ 4), (1, u "java/lang/Enum"), (0, u "name"), (0, u "Ljava/lang/String;"), (2, u "ordinal"), (0, u "I"), (1, .class_ 14), (1, u "java/lang/Object"), (4, u "hash"), (86, .class_ 108), (1, u "java/lang/Enum$EnumDesc"), (2, .class_ 112), (0, u "java/lang/constant/Constable"), (0, .class_ 114), (0, u "java/lang/Comparable"), (0, .class_ 116), (0, u "java/io/Serializable")] 87

/-- java/lang/Enum -/
def k5 : Class := { plain "java/lang/Enum" (some 0) with
  accessFlags := 1057
  interfaces := #[2, 3, 4]
  cf := some (fileOf pool5 2 #[.nestMembers #[106]] #[] 1057 12 #[111, 113, 115] #[{ accessFlags := 18, nameIndex := 5, descriptorIndex := 6, attributes := #[] }, { accessFlags := 18, nameIndex := 9, descriptorIndex := 10, attributes := #[] }, { accessFlags := 2, nameIndex := 19, descriptorIndex := 10, attributes := #[] }])
  fields := #[{ name := "name", type := (.object "java/lang/String"), accessFlags := 18, slot := 0, constantValue := 0 }, { name := "ordinal", type := .int, accessFlags := 18, slot := 1, constantValue := 0 }, { name := "hash", type := .int, accessFlags := 2, slot := 2, constantValue := 0 }]
  methods := #[]
  instanceTypes := #[(.object "java/lang/String"), .int, .int]
  staticTypes := #[]
  resolved := Array.replicate 204 none
  statics := none }

def pool6 : Array CpInfo := pool [(1, .class_ 2), (0, u "com/example/bones_of_bytecode/bonesofbytecode/MapItemType"), (2, u "HEADER_ITEM"), (0, u "Lcom/example/bones_of_bytecode/bonesofbytecode/MapItemType;"), (2, u "STRING_ID_ITEM"), (2, u "TYPE_ID_ITEM"), (2, u "PROTO_ID_ITEM"), (2, u "FIELD_ID_ITEM"), (2, u "METHOD_ID_ITEM"), (2, u "CLASS_DEF_ITEM"), (2, u "CALL_SITE_ID_ITEM"), (2, u "METHOD_HANDLE_ITEM"), (2, u "MAP_LIST"), (2, u "TYPE_LIST"), (2, u "ANNOTATION_SET_REF_LIST"), (2, u "ANNOTATION_SET_ITEM"), (0, .fieldref 1 44), (0, .nameAndType 45 6), (0, u "CLASS_DATA_ITEM"), (2, u "CODE_ITEM"), (0, .fieldref 1 50), (0, .nameAndType 51 6), (0, u "STRING_DATA_ITEM"), (0, .fieldref 1 53), (0, .nameAndType 54 6), (0, u "DEBUG_INFO_ITEM"), (0, .fieldref 1 56), (0, .nameAndType 57 6), (0, u "ANNOTATION_ITEM"), (0, .fieldref 1 59), (0, .nameAndType 60 6), (0, u "ENCODED_ARRAY_ITEM"), (2, u "ANNOTATIONS_DIRECTORY_ITEM"), (2, u "HIDDENAPI_CLASS_DATA_ITEM"), (2, u "$VALUES"), (0, u "[Lcom/example/bones_of_bytecode/bonesofbytecode/MapItemType;"), (6, .class_ 79), (1, u "java/lang/Enum"), (24, u "itemName"), (0, u "Ljava/lang/String;"), (2, u "code"), (0, u "I"), (40, u "()Z"), (1, u "aligned")] 7

def k6c0 : Code := { maxStack := 2, maxLocals := 1, code := prog_120_method_7_code, exceptionTable := #[], attributes := #[] }
def k6m0 : Method := { name := "aligned", desc := "()Z", sig := { parameters := [], returnType := some .boolean }, accessFlags := 0, code := some k6c0 }
/-- com/example/bones_of_bytecode/bonesofbytecode/MapItemType -/
def k6 : Class := { plain "com/example/bones_of_bytecode/bonesofbytecode/MapItemType" (some 5) with
  accessFlags := 16432
  interfaces := #[]
  cf := some (fileOf pool6 1 #[] #[{ accessFlags := 0, nameIndex := 152, descriptorIndex := 150, attributes := #[] }] 16432 77 #[] #[{ accessFlags := 16409, nameIndex := 5, descriptorIndex := 6, attributes := #[] }, { accessFlags := 16409, nameIndex := 9, descriptorIndex := 6, attributes := #[] }, { accessFlags := 16409, nameIndex := 12, descriptorIndex := 6, attributes := #[] }, { accessFlags := 16409, nameIndex := 15, descriptorIndex := 6, attributes := #[] }, { accessFlags := 16409, nameIndex := 18, descriptorIndex := 6, attributes := #[] }, { accessFlags := 16409, nameIndex := 21, descriptorIndex := 6, attributes := #[] }, { accessFlags := 16409, nameIndex := 24, descriptorIndex := 6, attributes := #[] }, { accessFlags := 16409, nameIndex := 27, descriptorIndex := 6, attributes := #[] }, { accessFlags := 16409, nameIndex := 30, descriptorIndex := 6, attributes := #[] }, { accessFlags := 16409, nameIndex := 33, descriptorIndex := 6, attributes := #[] }, { accessFlags := 16409, nameIndex := 36, descriptorIndex := 6, attributes := #[] }, { accessFlags := 16409, nameIndex := 39, descriptorIndex := 6, attributes := #[] }, { accessFlags := 16409, nameIndex := 42, descriptorIndex := 6, attributes := #[] }, { accessFlags := 16409, nameIndex := 45, descriptorIndex := 6, attributes := #[] }, { accessFlags := 16409, nameIndex := 48, descriptorIndex := 6, attributes := #[] }, { accessFlags := 16409, nameIndex := 51, descriptorIndex := 6, attributes := #[] }, { accessFlags := 16409, nameIndex := 54, descriptorIndex := 6, attributes := #[] }, { accessFlags := 16409, nameIndex := 57, descriptorIndex := 6, attributes := #[] }, { accessFlags := 16409, nameIndex := 60, descriptorIndex := 6, attributes := #[] }, { accessFlags := 16409, nameIndex := 63, descriptorIndex := 6, attributes := #[] }, { accessFlags := 16409, nameIndex := 66, descriptorIndex := 6, attributes := #[] }, { accessFlags := 18, nameIndex := 108, descriptorIndex := 109, attributes := #[] }, { accessFlags := 18, nameIndex := 104, descriptorIndex := 105, attributes := #[] }, { accessFlags := 4122, nameIndex := 69, descriptorIndex := 70, attributes := #[] }])
  fields := #[{ name := "HEADER_ITEM", type := (.object "com/example/bones_of_bytecode/bonesofbytecode/MapItemType"), accessFlags := 16409, slot := 0, constantValue := 0 }, { name := "STRING_ID_ITEM", type := (.object "com/example/bones_of_bytecode/bonesofbytecode/MapItemType"), accessFlags := 16409, slot := 1, constantValue := 0 }, { name := "TYPE_ID_ITEM", type := (.object "com/example/bones_of_bytecode/bonesofbytecode/MapItemType"), accessFlags := 16409, slot := 2, constantValue := 0 }, { name := "PROTO_ID_ITEM", type := (.object "com/example/bones_of_bytecode/bonesofbytecode/MapItemType"), accessFlags := 16409, slot := 3, constantValue := 0 }, { name := "FIELD_ID_ITEM", type := (.object "com/example/bones_of_bytecode/bonesofbytecode/MapItemType"), accessFlags := 16409, slot := 4, constantValue := 0 }, { name := "METHOD_ID_ITEM", type := (.object "com/example/bones_of_bytecode/bonesofbytecode/MapItemType"), accessFlags := 16409, slot := 5, constantValue := 0 }, { name := "CLASS_DEF_ITEM", type := (.object "com/example/bones_of_bytecode/bonesofbytecode/MapItemType"), accessFlags := 16409, slot := 6, constantValue := 0 }, { name := "CALL_SITE_ID_ITEM", type := (.object "com/example/bones_of_bytecode/bonesofbytecode/MapItemType"), accessFlags := 16409, slot := 7, constantValue := 0 }, { name := "METHOD_HANDLE_ITEM", type := (.object "com/example/bones_of_bytecode/bonesofbytecode/MapItemType"), accessFlags := 16409, slot := 8, constantValue := 0 }, { name := "MAP_LIST", type := (.object "com/example/bones_of_bytecode/bonesofbytecode/MapItemType"), accessFlags := 16409, slot := 9, constantValue := 0 }, { name := "TYPE_LIST", type := (.object "com/example/bones_of_bytecode/bonesofbytecode/MapItemType"), accessFlags := 16409, slot := 10, constantValue := 0 }, { name := "ANNOTATION_SET_REF_LIST", type := (.object "com/example/bones_of_bytecode/bonesofbytecode/MapItemType"), accessFlags := 16409, slot := 11, constantValue := 0 }, { name := "ANNOTATION_SET_ITEM", type := (.object "com/example/bones_of_bytecode/bonesofbytecode/MapItemType"), accessFlags := 16409, slot := 12, constantValue := 0 }, { name := "CLASS_DATA_ITEM", type := (.object "com/example/bones_of_bytecode/bonesofbytecode/MapItemType"), accessFlags := 16409, slot := 13, constantValue := 0 }, { name := "CODE_ITEM", type := (.object "com/example/bones_of_bytecode/bonesofbytecode/MapItemType"), accessFlags := 16409, slot := 14, constantValue := 0 }, { name := "STRING_DATA_ITEM", type := (.object "com/example/bones_of_bytecode/bonesofbytecode/MapItemType"), accessFlags := 16409, slot := 15, constantValue := 0 }, { name := "DEBUG_INFO_ITEM", type := (.object "com/example/bones_of_bytecode/bonesofbytecode/MapItemType"), accessFlags := 16409, slot := 16, constantValue := 0 }, { name := "ANNOTATION_ITEM", type := (.object "com/example/bones_of_bytecode/bonesofbytecode/MapItemType"), accessFlags := 16409, slot := 17, constantValue := 0 }, { name := "ENCODED_ARRAY_ITEM", type := (.object "com/example/bones_of_bytecode/bonesofbytecode/MapItemType"), accessFlags := 16409, slot := 18, constantValue := 0 }, { name := "ANNOTATIONS_DIRECTORY_ITEM", type := (.object "com/example/bones_of_bytecode/bonesofbytecode/MapItemType"), accessFlags := 16409, slot := 19, constantValue := 0 }, { name := "HIDDENAPI_CLASS_DATA_ITEM", type := (.object "com/example/bones_of_bytecode/bonesofbytecode/MapItemType"), accessFlags := 16409, slot := 20, constantValue := 0 }, { name := "code", type := .int, accessFlags := 18, slot := 3, constantValue := 0 }, { name := "itemName", type := (.object "java/lang/String"), accessFlags := 18, slot := 4, constantValue := 0 }, { name := "$VALUES", type := (.array (.object "com/example/bones_of_bytecode/bonesofbytecode/MapItemType")), accessFlags := 4122, slot := 21, constantValue := 0 }]
  methods := #[k6m0]
  instanceTypes := #[(.object "java/lang/String"), .int, .int, .int, (.object "java/lang/String")]
  staticTypes := #[(.object "com/example/bones_of_bytecode/bonesofbytecode/MapItemType"), (.object "com/example/bones_of_bytecode/bonesofbytecode/MapItemType"), (.object "com/example/bones_of_bytecode/bonesofbytecode/MapItemType"), (.object "com/example/bones_of_bytecode/bonesofbytecode/MapItemType"), (.object "com/example/bones_of_bytecode/bonesofbytecode/MapItemType"), (.object "com/example/bones_of_bytecode/bonesofbytecode/MapItemType"), (.object "com/example/bones_of_bytecode/bonesofbytecode/MapItemType"), (.object "com/example/bones_of_bytecode/bonesofbytecode/MapItemType"), (.object "com/example/bones_of_bytecode/bonesofbytecode/MapItemType"), (.object "com/example/bones_of_bytecode/bonesofbytecode/MapItemType"), (.object "com/example/bones_of_bytecode/bonesofbytecode/MapItemType"), (.object "com/example/bones_of_bytecode/bonesofbytecode/MapItemType"), (.object "com/example/bones_of_bytecode/bonesofbytecode/MapItemType"), (.object "com/example/bones_of_bytecode/bonesofbytecode/MapItemType"), (.object "com/example/bones_of_bytecode/bonesofbytecode/MapItemType"), (.object "com/example/bones_of_bytecode/bonesofbytecode/MapItemType"), (.object "com/example/bones_of_bytecode/bonesofbytecode/MapItemType"), (.object "com/example/bones_of_bytecode/bonesofbytecode/MapItemType"), (.object "com/example/bones_of_bytecode/bonesofbytecode/MapItemType"), (.object "com/example/bones_of_bytecode/bonesofbytecode/MapItemType"), (.object "com/example/bones_of_bytecode/bonesofbytecode/MapItemType"), (.array (.object "com/example/bones_of_bytecode/bonesofbytecode/MapItemType"))]
  resolved := Array.replicate 160 none
  statics := some 0 }

def pool7 : Array CpInfo := pool [(1, u "java/lang/Cloneable"), (0, .class_ 1), (0, u "java/lang/Object"), (0, .class_ 3)] 3

/-- java/lang/Cloneable -/
def k7 : Class := { plain "java/lang/Cloneable" (some 0) with
  accessFlags := 1537
  interfaces := #[]
  cf := some (fileOf pool7 2 #[] #[] 1537 4 #[] #[])
  fields := #[]
  methods := #[]
  instanceTypes := #[]
  staticTypes := #[]
  resolved := Array.replicate 8 none
  statics := none }

/-- the primitive byte -/
def k8 : Class := { plain "byte" none with kind := .primitive 'B', accessFlags := 0x411 }
/-- [B -/
def k9 : Class := { plain "[B" (some 0) with kind := .array 8 .byte, interfaces := #[7, 4], accessFlags := 1041 }

/-- the primitive int -/
def k10 : Class := { plain "int" none with kind := .primitive 'I', accessFlags := 0x411 }
/-- [I -/
def k11 : Class := { plain "[I" (some 0) with kind := .array 10 .int, interfaces := #[7, 4], accessFlags := 1041 }

/-- [Lcom/example/bones_of_bytecode/bonesofbytecode/MapItemType; -/
def k12 : Class := { plain "[Lcom/example/bones_of_bytecode/bonesofbytecode/MapItemType;" (some 0) with kind := .array 6 (.object "com/example/bones_of_bytecode/bonesofbytecode/MapItemType"), interfaces := #[7, 4], accessFlags := 1041 }

def heap : Heap := #[{ cls := 6, slots := #[.ref 1, .ref 2, .ref 3, .ref 4, .ref 5, .ref 6, .ref 7, .ref 8, .ref 9, .ref 10, .ref 11, .ref 12, .ref 13, .ref 14, .ref 15, .ref 16, .ref 17, .ref 18, .ref 19, .ref 20, .ref 21, .null], vm := .statics 6 },
  { cls := 6, slots := #[.null, .int 0, .int 0, .int 0, .null], vm := .none },
  { cls := 6, slots := #[.null, .int 1, .int 0, .int 0, .null], vm := .none },
  { cls := 6, slots := #[.null, .int 2, .int 0, .int 0, .null], vm := .none },
  { cls := 6, slots := #[.null, .int 3, .int 0, .int 0, .null], vm := .none },
  { cls := 6, slots := #[.null, .int 4, .int 0, .int 0, .null], vm := .none },
  { cls := 6, slots := #[.null, .int 5, .int 0, .int 0, .null], vm := .none },
  { cls := 6, slots := #[.null, .int 6, .int 0, .int 0, .null], vm := .none },
  { cls := 6, slots := #[.null, .int 7, .int 0, .int 0, .null], vm := .none },
  { cls := 6, slots := #[.null, .int 8, .int 0, .int 0, .null], vm := .none },
  { cls := 6, slots := #[.null, .int 9, .int 0, .int 0, .null], vm := .none },
  { cls := 6, slots := #[.null, .int 10, .int 0, .int 0, .null], vm := .none },
  { cls := 6, slots := #[.null, .int 11, .int 0, .int 0, .null], vm := .none },
  { cls := 6, slots := #[.null, .int 12, .int 0, .int 0, .null], vm := .none },
  { cls := 6, slots := #[.null, .int 13, .int 0, .int 0, .null], vm := .none },
  { cls := 6, slots := #[.null, .int 14, .int 0, .int 0, .null], vm := .none },
  { cls := 6, slots := #[.null, .int 15, .int 0, .int 0, .null], vm := .none },
  { cls := 6, slots := #[.null, .int 16, .int 0, .int 0, .null], vm := .none },
  { cls := 6, slots := #[.null, .int 17, .int 0, .int 0, .null], vm := .none },
  { cls := 6, slots := #[.null, .int 18, .int 0, .int 0, .null], vm := .none },
  { cls := 6, slots := #[.null, .int 19, .int 0, .int 0, .null], vm := .none },
  { cls := 6, slots := #[.null, .int 20, .int 0, .int 0, .null], vm := .none }]
def classes : Array Class := #[k0, k1, k2, k3, k4, k5, k6, k7, k8, k9, k10, k11, k12]
def interned : List (Array UInt16 × Addr) := []
def slotsUsed : Nat := 127
def theMethod : MethodId := ⟨1, 1⟩
def args0 : Array Value := #[.int 5]
def aboutOver (below : List Frame) : State where
  vm := { classes := classes, interned := interned.toArray }
  heap := heap
  slotsUsed := slotsUsed
  threads := #[{ frames := .invoking theMethod args0 :: below }]
def below0 : List Frame := [.native { method := ⟨0, 0⟩, args := #[] }]
def about1 : State := aboutOver below0
def p0 : Program := .bare "" "" ""
def e0 : Env := launch0.env 0 0 0
theorem w_frames : about1.frames = Frame.invoking theMethod args0 :: below0 := rfl
set_option maxRecDepth 65536 in
theorem w_args : argsFit about1.vm theMethod args0 = true := by decide +kernel
set_option maxRecDepth 65536 in
theorem w_heap : heapFits about1 = true := by decide +kernel
set_option maxRecDepth 65536 in
theorem w_runnable : about1.curStatus? = some .runnable := by decide +kernel
set_option maxRecDepth 65536 in
theorem w_alone : about1.alone = true := by decide +kernel
set_option maxRecDepth 65536 in
theorem w_named : about1.methodNamed? x = some theMethod := by decide +kernel
set_option maxRecDepth 65536 in
theorem w_hears : about1.hears theMethod below0 = true := by decide +kernel
set_option maxRecDepth 65536 in
theorem w_ripe : about1.ripe theMethod args0 below0 = true := by decide +kernel
theorem w_running : about1.status = .running := rfl
set_option maxRecDepth 65536 in
theorem w_room : about1.hasRoom e0.platform room_1 = true :=
  launch0.hasRoom_least _ room_1 (by decide +kernel) (by decide +kernel) (by decide +kernel) (by decide +kernel) (by decide +kernel) (by decide +kernel)
theorem allAtoms_all (ts : List Jvm.Cond) (a : Array Jvm.Value) (st : Jvm.State) : (allAtoms ts).before a st = ts.all (fun c => c.before a st) := by
  induction ts with
  | nil => rfl
  | cons c t ih =>
    show (Jvm.Cond.and c (allAtoms t)).before a st = _
    rw [Jvm.Cond.before_and, ih, List.all_cons]
def words1 : List Jvm.Cond := Jvm.Cond.code x code maxLocals ret :: tables_1
/-- a 'code' word, met by the world's own term for the bytes: nothing is compared byte by byte -/
theorem code_word {y : MethodName} {bytes : ByteArray} {mx : Nat} {rt : Option FieldType} {a : Array Value} {s : State} {m : MethodId} {meth : Method} {c : Code} (h1 : s.methodNamed? y = some m) (h2 : s.vm.method? m = some meth) (h3 : meth.code = some c) (h4 : c.code = bytes)
    (h5 : (c.maxLocals == mx && c.exceptionTable.isEmpty && decide (c.maxStack ≤ mostOperands) && decide (meth.sig.returnType = rt) && !meth.locks && decide (parseMethodDescriptor y.desc = some meth.sig)) = true) : (Jvm.Cond.code y bytes mx rt).before a s = true := by
  simp only [Bool.and_eq_true, beq_iff_eq, Bool.not_eq_true', decide_eq_true_eq] at h5
  obtain ⟨⟨⟨⟨⟨g1, g2⟩, g3⟩, g4⟩, g5⟩, g6⟩ := h5
  simp [Cond.before, Cond.holds, Cond.value, h1, h2, h3, h4, g1, g2, g3, g4, g5, g6]
def isCode : Jvm.Cond → Bool
  | .code _ _ _ _ => true
  | _ => false
theorem all_split {L : List Jvm.Cond} {P : Jvm.Cond → Bool} (h1 : L.all (fun c => isCode c || P c) = true) (h2 : ∀ c ∈ L.filter isCode, P c = true) : L.all P = true := by
  refine List.all_eq_true.mpr fun c hc => ?_
  have h := List.all_eq_true.mp h1 c hc
  rcases Bool.eq_false_or_eq_true (isCode c) with hi | hi
  · exact h2 c (List.mem_filter.mpr ⟨hc, hi⟩)
  · simpa [hi] using h
set_option maxRecDepth 65536 in
theorem w_c0 : (Jvm.Cond.code x code maxLocals ret).before args0 about1 = true := code_word (m := ⟨1, 1⟩) (meth := k1m1) (c := k1c1) (by decide +kernel) rfl rfl rfl (by decide +kernel)
set_option maxRecDepth 65536 in
theorem w_c1 : (Jvm.Cond.code ({ cls := "com/example/bones_of_bytecode/bonesofbytecode/MapItemType", name := "aligned", desc := "()Z" } : Jvm.MethodName) prog_120_method_7_code (1 : Nat) (Option.some Jvm.ClassFile.FieldType.boolean)).before args0 about1 = true := code_word (m := ⟨6, 0⟩) (meth := k6m0) (c := k6c0) (by decide +kernel) rfl rfl rfl (by decide +kernel)
def codes1 : List Jvm.Cond := [Jvm.Cond.code x code maxLocals ret, Jvm.Cond.code ({ cls := "com/example/bones_of_bytecode/bonesofbytecode/MapItemType", name := "aligned", desc := "()Z" } : Jvm.MethodName) prog_120_method_7_code (1 : Nat) (Option.some Jvm.ClassFile.FieldType.boolean)]
set_option maxRecDepth 65536 in
theorem codes_eq : words1.filter isCode = codes1 := rfl
theorem w_codes : ∀ c ∈ words1.filter isCode, c.before args0 about1 = true := by
  rw [codes_eq]
  intro c hc
  simp only [codes1, List.mem_cons, List.not_mem_nil, or_false] at hc
  rcases hc with rfl | rfl
  · exact w_c0
  · exact w_c1
set_option maxRecDepth 65536 in
theorem w_t1 : (words1.take 24).all (fun c => isCode c || c.before args0 about1) = true := by decide +kernel
set_option maxRecDepth 65536 in
theorem w_t2 : ((words1.drop 24).take 24).all (fun c => isCode c || c.before args0 about1) = true := by decide +kernel
set_option maxRecDepth 65536 in
theorem w_t3 : ((words1.drop 24).drop 24).all (fun c => isCode c || c.before args0 about1) = true := by decide +kernel
theorem w_tables : (allAtoms (Jvm.Cond.code x code maxLocals ret :: tables_1)).before args0 about1 = true := by
  rw [allAtoms_all]
  show words1.all (fun c => c.before args0 about1) = true
  refine all_split ?_ w_codes
  rw [← List.take_append_drop 24 words1, List.all_append, w_t1, ← List.take_append_drop 24 (words1.drop 24), List.all_append, w_t2, w_t3]
  rfl
set_option maxRecDepth 65536 in
theorem w_case : (Jvm.Cond.and given_1 narrow_1).before args0 about1 = true := by decide +kernel
theorem w_applies : (headSpec (Jvm.Cond.code x code maxLocals ret :: tables_1) room_1).applies x e0.platform about1 = true :=
  (Spec.applies_iff w_frames).mpr ⟨w_running, w_runnable, w_alone, w_named, w_hears, w_ripe, w_room, w_tables⟩
theorem atStart : AtStart classFile x code maxLocals ret World_1 tables_1 room_1 Calls_1 rest_1 Pre_1 launch0 p0 e0 about1 theMethod args0 below0 :=
  ⟨lists_1, trivial, launch0.admits_env _ _ _, launch0.least_env, fairChoices_fair.cas, fairChoices_fair.clock, w_frames, w_args, w_heap, w_applies, trivial, trivial, w_case⟩
end start1
theorem witness_1 : WitnessClaimed_1 := ⟨start1.p0, start1.e0, start1.about1, start1.theMethod, start1.args0, start1.below0, start1.atStart⟩
end Jvm.Pilot.@@N@@
