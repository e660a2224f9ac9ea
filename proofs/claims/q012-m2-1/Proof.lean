import JvmDerived
import JvmDerived.Pilot.@@N@@Statement
import JvmDerived.Pilot.@@N@@Code
set_option linter.unusedVariables false
set_option linter.unusedSimpArgs false
namespace Jvm.OwnW
open Sem ClassFile Op Lib Jvm.Stand Jvm.Free Jvm.LawKit Jvm.RoadKit
/-! ## The objects and arrays that a walk has made, as a list -/
abbrev Ent : Type := Addr × (FieldType × List Value ⊕ String × List (String × String × String × Value))
def Ay (Z : State) (h : Heap) (a : Addr) (ty : FieldType) (xs : List Value) : Prop := ∃ c : Cell, Arr Z h a c ty ∧ c.slots = xs.toArray ∧ Exa Z h a ("[" ++ ty.toString)
def Ob (Z : State) (a0 : Array Value) (h : Heap) (a : Addr) (C : String) (fs : List (String × String × String × Value)) : Prop :=
  Exa Z h a C ∧ (∀ f ∈ fs, Fld Z h a f.1 f.2.1 f.2.2.1 f.2.2.2 ∧ Laid Z a0 C f.1 f.2.1 f.2.2.1 ∧ ∃ t, parseFieldDescriptor f.2.2.1 = some t) ∧ (∃ k, (Cond.instantiable C k).before a0 Z = true) ∧ fs.Pairwise (fun f g => f.2.1 ≠ g.2.1)
def Is (Z : State) (a0 : Array Value) (h : Heap) (x : Ent) : Prop :=
  match x.2 with
  | .inl q => Ay Z h x.1 q.1 q.2
  | .inr q => Ob Z a0 h x.1 q.1 q.2
section Heaps
variable {Z : State} {a0 : Array Value} {n0 : Nat} {h h' : Heap} {a b : Addr} {sl : Nat} {v w : Value} {x : Ent} {H : List Ent}
theorem Ay.ext {ty : FieldType} {xs : List Value} (E : Ext h h') (A : Ay Z h a ty xs) : Ay Z h' a ty xs := by obtain ⟨c, h1, h2, h3⟩ := A; exact ⟨c, h1.ext E, h2, h3.ext E⟩
theorem Ay.other {ty : FieldType} {xs : List Value} (W : Wr h h' b sl v) (A : Ay Z h a ty xs) (ne : a ≠ b) : Ay Z h' a ty xs := by obtain ⟨c, h1, h2, h3⟩ := A; exact ⟨c, h1.other W ne, h2, h3.wr W⟩
theorem Ay.set {ty : FieldType} {xs : List Value} (W : Wr h h' a sl v) (A : Ay Z h a ty xs) : Ay Z h' a ty (xs.set sl v) := by
  obtain ⟨c, h1, h2, h3⟩ := A
  refine ⟨_, h1.same W, ?_, h3.wr W⟩
  simp [Cell.setSlot, h2]
theorem Ay.lt {ty : FieldType} {xs : List Value} (A : Ay Z h a ty xs) : a < h.size := by obtain ⟨c, h1, -⟩ := A; exact h1.lt
theorem Ob.ext {C : String} {fs : List (String × String × String × Value)} (E : Ext h h') (A : Ob Z a0 h a C fs) : Ob Z a0 h' a C fs := by
  obtain ⟨h1, h2, h3⟩ := A; exact ⟨h1.ext E, fun f hf => ⟨(h2 f hf).1.ext E, (h2 f hf).2⟩, h3⟩
theorem Ob.other {C : String} {fs : List (String × String × String × Value)} (W : Wr h h' b sl v) (A : Ob Z a0 h a C fs) (ne : a ≠ b) : Ob Z a0 h' a C fs := by
  obtain ⟨h1, h2, h3⟩ := A; exact ⟨h1.wr W, fun f hf => ⟨(h2 f hf).1.other W (Or.inl ne), (h2 f hf).2⟩, h3⟩
theorem Ob.set {C : String} {fs : List (String × String × String × Value)} {k : Nat} {O n d : String} (A : Ob Z a0 h a C fs) (hk : fs[k]? = some (O, n, d, w)) (W : Wr h h' a (Jvm.RoadKit.slotOf Z O n d) v) : Ob Z a0 h' a C (fs.set k (O, n, d, v)) := by
  obtain ⟨h1, h2, h3, h4⟩ := A
  obtain ⟨hk1, hk2⟩ := List.getElem?_eq_some_iff.mp hk
  have hm : (O, n, d, w) ∈ fs := hk2 ▸ List.getElem_mem hk1
  obtain ⟨g1, g2, t, g3⟩ := h2 _ hm
  refine ⟨h1.wr W, fun f hf => ?_, h3, ?_⟩
  · obtain ⟨i, hi, rfl⟩ := List.getElem_of_mem hf
    have hi' : i < fs.length := by simpa using hi
    rw [List.getElem_set]
    by_cases e : k = i
    · subst e
      simp only [if_true]
      exact ⟨g1.same W, g2, t, g3⟩
    · simp only [e, if_false]
      obtain ⟨q1, q2, t', q3⟩ := h2 _ (List.getElem_mem hi')
      refine ⟨q1.other W (Or.inr ?_), q2, t', q3⟩
      have hne : fs[i].2.1 ≠ n := by
        rcases Nat.lt_or_gt_of_ne e with hlt | hlt
        · have := List.pairwise_iff_getElem.mp h4 k i hk1 hi' hlt
          rw [hk2] at this; exact fun z => this z.symm
        · have := List.pairwise_iff_getElem.mp h4 i k hi' hk1 hlt
          rw [hk2] at this; exact this
      exact slot_ne q2 g2 hne q3 g3
  · refine List.pairwise_iff_getElem.mpr fun i j hi hj hij => ?_
    have hi' : i < fs.length := by simpa using hi
    have hj' : j < fs.length := by simpa using hj
    have q := List.pairwise_iff_getElem.mp h4 i j hi' hj' hij
    rw [List.getElem_set, List.getElem_set]
    have e1 : fs[k].2.1 = n := by rw [hk2]
    by_cases ei : k = i
    · subst ei
      by_cases ej : k = j
      · omega
      · simp only [ej, if_true, if_false]; rw [e1] at q; exact q
    · by_cases ej : k = j
      · subst ej; simp only [ei, if_true, if_false]; rw [e1] at q; exact q
      · simp only [ei, ej, if_false]; exact q
theorem Ob.lt {C : String} {fs : List (String × String × String × Value)} (A : Ob Z a0 h a C fs) : a < h.size := A.1.lt
theorem Is.ext (E : Ext h h') (A : Is Z a0 h x) : Is Z a0 h' x := by
  obtain ⟨a, q | q⟩ := x
  · exact Ay.ext E A
  · exact Ob.ext E A
theorem Is.other (W : Wr h h' b sl v) (A : Is Z a0 h x) (ne : x.1 ≠ b) : Is Z a0 h' x := by
  obtain ⟨a, q | q⟩ := x
  · exact Ay.other W A ne
  · exact Ob.other W A ne
theorem Is.lt (A : Is Z a0 h x) : x.1 < h.size := by
  obtain ⟨a, q | q⟩ := x
  · exact Ay.lt A
  · exact Ob.lt A
def Hp (Z : State) (a0 : Array Value) (n0 : Nat) (h : Heap) (H : List Ent) : Prop := n0 ≤ h.size ∧ (∀ x ∈ H, Is Z a0 h x ∧ n0 ≤ x.1) ∧ H.Pairwise (fun x y => x.1 ≠ y.1)
theorem Hp.nil (q : n0 ≤ h.size) : Hp Z a0 n0 h [] := ⟨q, (fun _ z => nomatch z), List.Pairwise.nil⟩
theorem Hp.push {d : FieldType × List Value ⊕ String × List (String × String × String × Value)} (P : Hp Z a0 n0 h H) (E : Ext h h') (A : Is Z a0 h' (h.size, d)) : Hp Z a0 n0 h' (H ++ [(h.size, d)]) := by
  obtain ⟨h1, h2, h3⟩ := P
  refine ⟨Nat.le_trans h1 E.1, fun x hx => ?_, ?_⟩
  · rcases List.mem_append.mp hx with q | q
    · exact ⟨(h2 x q).1.ext E, (h2 x q).2⟩
    · cases List.mem_singleton.mp q; exact ⟨A, h1⟩
  · refine List.pairwise_append.mpr ⟨h3, List.pairwise_singleton _ _, fun x hx y hy => ?_⟩
    cases List.mem_singleton.mp hy
    exact Nat.ne_of_lt (h2 x hx).1.lt
theorem Hp.at {i : Nat} (P : Hp Z a0 n0 h H) (hi : H[i]? = some x) : Is Z a0 h x ∧ n0 ≤ x.1 := by
  obtain ⟨q1, q2⟩ := List.getElem?_eq_some_iff.mp hi
  exact P.2.1 x (q2 ▸ List.getElem_mem q1)
theorem Hp.ne {i j : Nat} {y : Ent} (P : Hp Z a0 n0 h H) (hi : H[i]? = some x) (hj : H[j]? = some y) (ne : i ≠ j) : x.1 ≠ y.1 := by
  obtain ⟨p1, p2⟩ := List.getElem?_eq_some_iff.mp hi
  obtain ⟨q1, q2⟩ := List.getElem?_eq_some_iff.mp hj
  subst p2 q2
  rcases Nat.lt_or_gt_of_ne ne with q | q
  · exact List.pairwise_iff_getElem.mp P.2.2 i j p1 q1 q
  · exact fun z => List.pairwise_iff_getElem.mp P.2.2 j i q1 p1 q z.symm
theorem Hp.set {i : Nat} {d d' : FieldType × List Value ⊕ String × List (String × String × String × Value)} (P : Hp Z a0 n0 h H) (hi : H[i]? = some (a, d)) (W : Wr h h' a sl v) (A : Is Z a0 h' (a, d')) : Hp Z a0 n0 h' (H.set i (a, d')) := by
  obtain ⟨p1, p2⟩ := List.getElem?_eq_some_iff.mp hi
  refine ⟨by rw [W.size]; exact P.1, fun x hx => ?_, ?_⟩
  · obtain ⟨j, hj, rfl⟩ := List.getElem_of_mem hx
    have hj' : j < H.length := by simpa using hj
    rw [List.getElem_set]
    by_cases e : i = j
    · simp only [e, if_true]; exact ⟨A, (P.at hi).2⟩
    · simp only [e, if_false]
      have q := P.2.1 _ (List.getElem_mem hj')
      have ne := P.ne (i := j) (j := i) (List.getElem?_eq_getElem hj') hi (fun z => e z.symm)
      exact ⟨q.1.other W ne, q.2⟩
  · refine List.pairwise_iff_getElem.mpr fun j k hj hk hjk => ?_
    have hj' : j < H.length := by simpa using hj
    have hk' : k < H.length := by simpa using hk
    have q := List.pairwise_iff_getElem.mp P.2.2 j k hj' hk' hjk
    have e0 : H[i].1 = a := by rw [p2]
    rw [List.getElem_set, List.getElem_set]
    by_cases ej : i = j
    · subst ej
      by_cases ek : i = k
      · omega
      · simp only [ek, if_true, if_false]; rw [e0] at q; exact q
    · by_cases ek : i = k
      · subst ek; simp only [ej, if_true, if_false]; rw [e0] at q; exact q
      · simp only [ej, ek, if_false]; exact q
end Heaps
/-! ## Where a walk stands, and that it comes to an end -/
def Old (n0 : Nat) (h h' : Heap) : Prop := ∀ (a : Addr) (c : Cell), a < n0 → h[a]? = some c → h'[a]? = some c
theorem Old.refl (n0 : Nat) (h : Heap) : Old n0 h h := fun _ _ _ q => q
theorem Old.trans {n0 : Nat} {h h' h'' : Heap} (A : Old n0 h h') (B : Old n0 h' h'') : Old n0 h h'' := fun a c q r => B a c q (A a c q r)
theorem Old.ext {n0 : Nat} {h h' : Heap} (E : Ext h h') : Old n0 h h' := fun a c _ r => E.2 a c r
theorem Old.wr {n0 : Nat} {h h' : Heap} {a : Addr} {sl : Nat} {v : Value} (W : Wr h h' a sl v) (q : n0 ≤ a) : Old n0 h h' := fun b c hb r => by
  obtain ⟨c', e1, -, -, -, e5, -⟩ := wr_at W r
  rw [← e5 (Nat.ne_of_lt (Nat.lt_of_lt_of_le hb q))]; exact e1
def Ctx (p : Program) (l : Launch) (e : Env) (R : Room) (s : State) (m : MethodId) (args : Array Value) (below : List Frame) (meth : Method) (c : Code) (Z : State) (a0 : Array Value) (n0 : Nat) (own : String) (bytes : ByteArray) (ml : Nat) (ret : Option FieldType) (T : State) (H : List Ent) (kc ks : Nat) : Prop :=
  (∃ locs cells slots, Stand p l e R s m args below meth c T locs cells slots ∧ Fr n0 locs ∧ cells ≤ kc ∧ slots ≤ ks) ∧ Hp Z a0 n0 T.heap H ∧ Old n0 s.heap T.heap ∧
  p.tables.exec = Jvm.exec ∧ Z.Warmed39 s.vm ∧ s.vm.findClass own = some m.cls ∧ c.code = bytes ∧ c.maxLocals = ml ∧ meth.sig.returnType = ret ∧ meth.locks = false ∧ kc ≤ R.cells ∧ ks ≤ R.slots
def Go (p : Program) (e : Env) (below : List Frame) (K : State → Prop) (S : State) : Prop := ∃ n, Steps p.tables e below S n ∧ K n
/-- the walk's end: what it returned, what it made and left -/
def Fini (s : State) (below : List Frame) (Z : State) (a0 : Array Value) (n0 : Nat) (kc ks : Nat) (Q : Option Value → List Ent → Prop) (n : State) : Prop :=
  ∃ v L H, n.status = .running ∧ Ended n below (.returned v) ∧ Q v H ∧ Hp Z a0 n0 n.heap H ∧ Old n0 s.heap n.heap ∧ Fr n0 L ∧ FrameEnd s (.returned v) n L kc ks
section W
variable {p : Program} {l : Launch} {e : Env} {R : Room} {s : State} {m : MethodId} {args : Array Value} {below : List Frame} {meth : Method} {c : Code} {Z : State} {a0 : Array Value} {n0 : Nat} {own : String} {bytes : ByteArray} {ml : Nat} {ret : Option FieldType} {T : State} {H : List Ent} {kc ks : Nat} {K : State → Prop} {pc pc' : Nat} {Ls : Array Slot} {S : List Value}
theorem Ctx.pure (C : Ctx p l e R s m args below meth c Z a0 n0 own bytes ml ret T H kc ks) {S1 S2 : State} (h : At T m c below → p.tables.exec = Jvm.exec → c.code = bytes → ∀ t, Steps p.tables e below S2 t → Steps p.tables e below S1 t) (k : Go p e below K S2) : Go p e below K S1 := by
  obtain ⟨⟨_, _, _, X, -⟩, -, -, hx, -, -, hby, -⟩ := C
  obtain ⟨n, h1, h2⟩ := k
  exact ⟨n, h X.here hx hby n h1, h2⟩

theorem w_iloadN (C : Ctx p l e R s m args below meth c Z a0 n0 own bytes ml ret T H kc ks) {k : Fin 4} {v : Int32} (hd : decode bytes pc = .ok (.iload_n k, 1)) (hp : pc + 1 = pc') (hl : Ls[k.val]? = some (.val (.int v))) (q : Go p e below K (T.setTop (mkF m pc' Ls (.int v :: S)))) : Go p e below K (T.setTop (mkF m pc Ls S)) := by
  subst hp; exact C.pure (fun h hx hb' t k => XS.iloadN h hx rfl (hb hb' hd) hl k) q
theorem w_lloadN (C : Ctx p l e R s m args below meth c Z a0 n0 own bytes ml ret T H kc ks) {k : Fin 4} {v : Int64} (hd : decode bytes pc = .ok (.lload_n k, 1)) (hp : pc + 1 = pc') (hl : Ls[k.val]? = some (.val (.long v))) (q : Go p e below K (T.setTop (mkF m pc' Ls (.long v :: S)))) : Go p e below K (T.setTop (mkF m pc Ls S)) := by
  subst hp; exact C.pure (fun h hx hb' t k => XT.lloadN h hx rfl (hb hb' hd) hl k) q
theorem w_dloadN (C : Ctx p l e R s m args below meth c Z a0 n0 own bytes ml ret T H kc ks) {k : Fin 4} {v : UInt64} (hd : decode bytes pc = .ok (.dload_n k, 1)) (hp : pc + 1 = pc') (hl : Ls[k.val]? = some (.val (.double v))) (q : Go p e below K (T.setTop (mkF m pc' Ls (.double v :: S)))) : Go p e below K (T.setTop (mkF m pc Ls S)) := by
  subst hp; exact C.pure (fun h hx hb' t k => XS.dloadN h hx rfl (hb hb' hd) hl k) q
theorem w_aloadN (C : Ctx p l e R s m args below meth c Z a0 n0 own bytes ml ret T H kc ks) {k : Fin 4} {v : Value} (hd : decode bytes pc = .ok (.aload_n k, 1)) (hp : pc + 1 = pc') (hl : Ls[k.val]? = some (.val v)) (hv : v.isRef = true) (q : Go p e below K (T.setTop (mkF m pc' Ls (v :: S)))) : Go p e below K (T.setTop (mkF m pc Ls S)) := by
  subst hp; exact C.pure (fun h hx hb' t k => XS.aloadN h hx rfl (hb hb' hd) hl hv k) q
theorem w_iload (C : Ctx p l e R s m args below meth c Z a0 n0 own bytes ml ret T H kc ks) {k : Nat} {v : Int32} (hd : decode bytes pc = .ok (.iload k, 2)) (hp : pc + 2 = pc') (hl : Ls[k]? = some (.val (.int v))) (q : Go p e below K (T.setTop (mkF m pc' Ls (.int v :: S)))) : Go p e below K (T.setTop (mkF m pc Ls S)) := by
  subst hp; exact C.pure (fun h hx hb' t k => XS.iload h hx rfl (hb hb' hd) hl k) q
theorem w_lload (C : Ctx p l e R s m args below meth c Z a0 n0 own bytes ml ret T H kc ks) {k : Nat} {v : Int64} (hd : decode bytes pc = .ok (.lload k, 2)) (hp : pc + 2 = pc') (hl : Ls[k]? = some (.val (.long v))) (q : Go p e below K (T.setTop (mkF m pc' Ls (.long v :: S)))) : Go p e below K (T.setTop (mkF m pc Ls S)) := by
  subst hp; exact C.pure (fun h hx hb' t k => XT.lload h hx rfl (hb hb' hd) hl k) q
theorem w_dload (C : Ctx p l e R s m args below meth c Z a0 n0 own bytes ml ret T H kc ks) {k : Nat} {v : UInt64} (hd : decode bytes pc = .ok (.dload k, 2)) (hp : pc + 2 = pc') (hl : Ls[k]? = some (.val (.double v))) (q : Go p e below K (T.setTop (mkF m pc' Ls (.double v :: S)))) : Go p e below K (T.setTop (mkF m pc Ls S)) := by
  subst hp; exact C.pure (fun h hx hb' t k => XS.dload h hx rfl (hb hb' hd) hl k) q
theorem w_aload (C : Ctx p l e R s m args below meth c Z a0 n0 own bytes ml ret T H kc ks) {k : Nat} {v : Value} (hd : decode bytes pc = .ok (.aload k, 2)) (hp : pc + 2 = pc') (hl : Ls[k]? = some (.val v)) (hv : v.isRef = true) (q : Go p e below K (T.setTop (mkF m pc' Ls (v :: S)))) : Go p e below K (T.setTop (mkF m pc Ls S)) := by
  subst hp; exact C.pure (fun h hx hb' t k => XS.aload h hx rfl (hb hb' hd) hl hv k) q
theorem w_istoreN (C : Ctx p l e R s m args below meth c Z a0 n0 own bytes ml ret T H kc ks) {k : Fin 4} {v : Int32} {l' : Array Slot} (hd : decode bytes pc = .ok (.istore_n k, 1)) (hp : pc + 1 = pc') (hl : storeLocals Ls k.val (.int v) = some l') (q : Go p e below K (T.setTop (mkF m pc' l' S))) : Go p e below K (T.setTop (mkF m pc Ls (.int v :: S))) := by
  subst hp; exact C.pure (fun h hx hb' t k => XS.istoreN h hx rfl (hb hb' hd) rfl hl k) q
theorem w_lstoreN (C : Ctx p l e R s m args below meth c Z a0 n0 own bytes ml ret T H kc ks) {k : Fin 4} {v : Int64} {l' : Array Slot} (hd : decode bytes pc = .ok (.lstore_n k, 1)) (hp : pc + 1 = pc') (hl : storeLocals Ls k.val (.long v) = some l') (q : Go p e below K (T.setTop (mkF m pc' l' S))) : Go p e below K (T.setTop (mkF m pc Ls (.long v :: S))) := by
  subst hp; exact C.pure (fun h hx hb' t k => XT.lstoreN h hx rfl (hb hb' hd) rfl hl k) q
theorem w_dstoreN (C : Ctx p l e R s m args below meth c Z a0 n0 own bytes ml ret T H kc ks) {k : Fin 4} {v : UInt64} {l' : Array Slot} (hd : decode bytes pc = .ok (.dstore_n k, 1)) (hp : pc + 1 = pc') (hl : storeLocals Ls k.val (.double v) = some l') (q : Go p e below K (T.setTop (mkF m pc' l' S))) : Go p e below K (T.setTop (mkF m pc Ls (.double v :: S))) := by
  subst hp; exact C.pure (fun h hx hb' t k => XS.dstoreN h hx rfl (hb hb' hd) rfl hl k) q
theorem w_astoreN (C : Ctx p l e R s m args below meth c Z a0 n0 own bytes ml ret T H kc ks) {k : Fin 4} {v : Value} {l' : Array Slot} (hd : decode bytes pc = .ok (.astore_n k, 1)) (hp : pc + 1 = pc') (hl : storeLocals Ls k.val v = some l') (hv : v.isRef = true) (q : Go p e below K (T.setTop (mkF m pc' l' S))) : Go p e below K (T.setTop (mkF m pc Ls (v :: S))) := by
  subst hp; exact C.pure (fun h hx hb' t k => XS.astoreN h hx rfl (hb hb' hd) rfl hv hl k) q
theorem w_istore (C : Ctx p l e R s m args below meth c Z a0 n0 own bytes ml ret T H kc ks) {k : Nat} {v : Int32} {l' : Array Slot} (hd : decode bytes pc = .ok (.istore k, 2)) (hp : pc + 2 = pc') (hl : storeLocals Ls k (.int v) = some l') (q : Go p e below K (T.setTop (mkF m pc' l' S))) : Go p e below K (T.setTop (mkF m pc Ls (.int v :: S))) := by
  subst hp; exact C.pure (fun h hx hb' t k => XS.istore h hx rfl (hb hb' hd) rfl hl k) q
theorem w_lstore (C : Ctx p l e R s m args below meth c Z a0 n0 own bytes ml ret T H kc ks) {k : Nat} {v : Int64} {l' : Array Slot} (hd : decode bytes pc = .ok (.lstore k, 2)) (hp : pc + 2 = pc') (hl : storeLocals Ls k (.long v) = some l') (q : Go p e below K (T.setTop (mkF m pc' l' S))) : Go p e below K (T.setTop (mkF m pc Ls (.long v :: S))) := by
  subst hp; exact C.pure (fun h hx hb' t k => XT.lstore h hx rfl (hb hb' hd) rfl hl k) q
theorem w_dstore (C : Ctx p l e R s m args below meth c Z a0 n0 own bytes ml ret T H kc ks) {k : Nat} {v : UInt64} {l' : Array Slot} (hd : decode bytes pc = .ok (.dstore k, 2)) (hp : pc + 2 = pc') (hl : storeLocals Ls k (.double v) = some l') (q : Go p e below K (T.setTop (mkF m pc' l' S))) : Go p e below K (T.setTop (mkF m pc Ls (.double v :: S))) := by
  subst hp; exact C.pure (fun h hx hb' t k => XS.dstore h hx rfl (hb hb' hd) rfl hl k) q
theorem w_astore (C : Ctx p l e R s m args below meth c Z a0 n0 own bytes ml ret T H kc ks) {k : Nat} {v : Value} {l' : Array Slot} (hd : decode bytes pc = .ok (.astore k, 2)) (hp : pc + 2 = pc') (hl : storeLocals Ls k v = some l') (hv : v.isRef = true) (q : Go p e below K (T.setTop (mkF m pc' l' S))) : Go p e below K (T.setTop (mkF m pc Ls (v :: S))) := by
  subst hp; exact C.pure (fun h hx hb' t k => XS.astore h hx rfl (hb hb' hd) rfl hv hl k) q
theorem w_iconst (C : Ctx p l e R s m args below meth c Z a0 n0 own bytes ml ret T H kc ks) {i : Int} {v : Int32} (hd : decode bytes pc = .ok (.iconst i, 1)) (hp : pc + 1 = pc') (hv : Int32.ofInt i = v) (q : Go p e below K (T.setTop (mkF m pc' Ls (.int v :: S)))) : Go p e below K (T.setTop (mkF m pc Ls S)) := by
  subst hp; exact C.pure (fun h hx hb' t k => XS.iconst h hx rfl (hb hb' hd) (hv ▸ k)) q
theorem w_bipush (C : Ctx p l e R s m args below meth c Z a0 n0 own bytes ml ret T H kc ks) {i : Int} {v : Int32} (hd : decode bytes pc = .ok (.bipush i, 2)) (hp : pc + 2 = pc') (hv : (Int8.ofInt i).toInt32 = v) (q : Go p e below K (T.setTop (mkF m pc' Ls (.int v :: S)))) : Go p e below K (T.setTop (mkF m pc Ls S)) := by
  subst hp; exact C.pure (fun h hx hb' t k => XS.bipush h hx rfl (hb hb' hd) (hv ▸ k)) q
theorem w_sipush (C : Ctx p l e R s m args below meth c Z a0 n0 own bytes ml ret T H kc ks) {i : Int} {v : Int32} (hd : decode bytes pc = .ok (.sipush i, 3)) (hp : pc + 3 = pc') (hv : (Int16.ofInt i).toInt32 = v) (q : Go p e below K (T.setTop (mkF m pc' Ls (.int v :: S)))) : Go p e below K (T.setTop (mkF m pc Ls S)) := by
  subst hp; exact C.pure (fun h hx hb' t k => XS.sipush h hx rfl (hb hb' hd) (hv ▸ k)) q
theorem w_lconst (C : Ctx p l e R s m args below meth c Z a0 n0 own bytes ml ret T H kc ks) {i : Fin 2} {v : Int64} (hd : decode bytes pc = .ok (.lconst i, 1)) (hp : pc + 1 = pc') (hv : Int64.ofNat i = v) (q : Go p e below K (T.setTop (mkF m pc' Ls (.long v :: S)))) : Go p e below K (T.setTop (mkF m pc Ls S)) := by
  subst hp; exact C.pure (fun h hx hb' t k => XT.lconst h hx rfl (hb hb' hd) (hv ▸ k)) q
theorem w_aconst_null (C : Ctx p l e R s m args below meth c Z a0 n0 own bytes ml ret T H kc ks) (hd : decode bytes pc = .ok (.aconst_null, 1)) (hp : pc + 1 = pc') (q : Go p e below K (T.setTop (mkF m pc' Ls (.null :: S)))) : Go p e below K (T.setTop (mkF m pc Ls S)) := by
  subst hp; exact C.pure (fun h hx hb' t k => XS.aconstNull h hx rfl (hb hb' hd) k) q
theorem w_dconst0 (C : Ctx p l e R s m args below meth c Z a0 n0 own bytes ml ret T H kc ks) (hd : decode bytes pc = .ok (.dconst 0, 1)) (hp : pc + 1 = pc') (q : Go p e below K (T.setTop (mkF m pc' Ls (.double 0 :: S)))) : Go p e below K (T.setTop (mkF m pc Ls S)) := by
  subst hp; exact C.pure (fun h hx hb' t k => XS.dconst0 h hx rfl (hb hb' hd) rfl k) q
theorem w_dconst1 (C : Ctx p l e R s m args below meth c Z a0 n0 own bytes ml ret T H kc ks) (hd : decode bytes pc = .ok (.dconst 1, 1)) (hp : pc + 1 = pc') (q : Go p e below K (T.setTop (mkF m pc' Ls (.double 4607182418800017408 :: S)))) : Go p e below K (T.setTop (mkF m pc Ls S)) := by
  subst hp; exact C.pure (fun h hx hb' t k => XS.dconst1 h hx rfl (hb hb' hd) rfl k) q
theorem w_i2d (C : Ctx p l e R s m args below meth c Z a0 n0 own bytes ml ret T H kc ks) {x : Int32} {v : UInt64} (hd : decode bytes pc = .ok (.i2d, 1)) (hp : pc + 1 = pc') (hv : FP.i2d x = v) (q : Go p e below K (T.setTop (mkF m pc' Ls (.double v :: S)))) : Go p e below K (T.setTop (mkF m pc Ls (.int x :: S))) := by
  subst hp; exact C.pure (fun h hx hb' t k => XS.i2dS h hx rfl (hb hb' hd) rfl hv k) q
theorem w_l2d (C : Ctx p l e R s m args below meth c Z a0 n0 own bytes ml ret T H kc ks) {x : Int64} {v : UInt64} (hd : decode bytes pc = .ok (.l2d, 1)) (hp : pc + 1 = pc') (hv : FP.l2d x = v) (q : Go p e below K (T.setTop (mkF m pc' Ls (.double v :: S)))) : Go p e below K (T.setTop (mkF m pc Ls (.long x :: S))) := by
  subst hp; exact C.pure (fun h hx hb' t k => XS.l2dS h hx rfl (hb hb' hd) rfl hv k) q
theorem w_d2l (C : Ctx p l e R s m args below meth c Z a0 n0 own bytes ml ret T H kc ks) {x : UInt64} {v : Int64} (hd : decode bytes pc = .ok (.d2l, 1)) (hp : pc + 1 = pc') (hv : FP.d2l x = v) (q : Go p e below K (T.setTop (mkF m pc' Ls (.long v :: S)))) : Go p e below K (T.setTop (mkF m pc Ls (.double x :: S))) := by
  subst hp; exact C.pure (fun h hx hb' t k => XS.d2lS h hx rfl (hb hb' hd) rfl hv k) q
theorem w_dneg (C : Ctx p l e R s m args below meth c Z a0 n0 own bytes ml ret T H kc ks) {x v : UInt64} (hd : decode bytes pc = .ok (.dneg, 1)) (hp : pc + 1 = pc') (hv : FP.dneg x = v) (q : Go p e below K (T.setTop (mkF m pc' Ls (.double v :: S)))) : Go p e below K (T.setTop (mkF m pc Ls (.double x :: S))) := by
  subst hp; exact C.pure (fun h hx hb' t k => XS.dnegS h hx rfl (hb hb' hd) rfl hv k) q
theorem w_dadd (C : Ctx p l e R s m args below meth c Z a0 n0 own bytes ml ret T H kc ks) {x y v : UInt64} (hd : decode bytes pc = .ok (.dadd, 1)) (hp : pc + 1 = pc') (hn : Jvm.Free.Fl.NoNaN64 (FP.dadd x y)) (hv : FP.dadd x y = v) (q : Go p e below K (T.setTop (mkF m pc' Ls (.double v :: S)))) : Go p e below K (T.setTop (mkF m pc Ls (.double y :: .double x :: S))) := by
  subst hp; exact C.pure (fun h hx hb' t k => XS.daddS h hx rfl (hb hb' hd) rfl hn hv k) q
theorem w_dsub (C : Ctx p l e R s m args below meth c Z a0 n0 own bytes ml ret T H kc ks) {x y v : UInt64} (hd : decode bytes pc = .ok (.dsub, 1)) (hp : pc + 1 = pc') (hn : Jvm.Free.Fl.NoNaN64 (FP.dsub x y)) (hv : FP.dsub x y = v) (q : Go p e below K (T.setTop (mkF m pc' Ls (.double v :: S)))) : Go p e below K (T.setTop (mkF m pc Ls (.double y :: .double x :: S))) := by
  subst hp; exact C.pure (fun h hx hb' t k => XS.dsubS h hx rfl (hb hb' hd) rfl hn hv k) q
theorem w_dmul (C : Ctx p l e R s m args below meth c Z a0 n0 own bytes ml ret T H kc ks) {x y v : UInt64} (hd : decode bytes pc = .ok (.dmul, 1)) (hp : pc + 1 = pc') (hn : Jvm.Free.Fl.NoNaN64 (FP.dmul x y)) (hv : FP.dmul x y = v) (q : Go p e below K (T.setTop (mkF m pc' Ls (.double v :: S)))) : Go p e below K (T.setTop (mkF m pc Ls (.double y :: .double x :: S))) := by
  subst hp; exact C.pure (fun h hx hb' t k => XS.dmulS h hx rfl (hb hb' hd) rfl hn hv k) q
theorem w_ddiv (C : Ctx p l e R s m args below meth c Z a0 n0 own bytes ml ret T H kc ks) {x y v : UInt64} (hd : decode bytes pc = .ok (.ddiv, 1)) (hp : pc + 1 = pc') (hn : Jvm.Free.Fl.NoNaN64 (FP.ddiv x y)) (hv : FP.ddiv x y = v) (q : Go p e below K (T.setTop (mkF m pc' Ls (.double v :: S)))) : Go p e below K (T.setTop (mkF m pc Ls (.double y :: .double x :: S))) := by
  subst hp; exact C.pure (fun h hx hb' t k => XS.ddivS h hx rfl (hb hb' hd) rfl hn hv k) q
theorem w_dcmp (C : Ctx p l e R s m args below meth c Z a0 n0 own bytes ml ret T H kc ks) {o : CmpOp} {x y : UInt64} {v : Int32} (hd : decode bytes pc = .ok (.dcmp o, 1)) (hp : pc + 1 = pc') (hv : cmpValue (FP.dcmp x y) o = v) (q : Go p e below K (T.setTop (mkF m pc' Ls (.int v :: S)))) : Go p e below K (T.setTop (mkF m pc Ls (.double y :: .double x :: S))) := by
  subst hp; exact C.pure (fun h hx hb' t k => XS.dcmpS h hx rfl (hb hb' hd) rfl hv k) q
theorem w_iadd (C : Ctx p l e R s m args below meth c Z a0 n0 own bytes ml ret T H kc ks) {x y v : Int32} (hd : decode bytes pc = .ok (.iadd, 1)) (hp : pc + 1 = pc') (hv : x + y = v) (q : Go p e below K (T.setTop (mkF m pc' Ls (.int v :: S)))) : Go p e below K (T.setTop (mkF m pc Ls (.int y :: .int x :: S))) := by
  subst hp; exact C.pure (fun h hx hb' t k => XS.iadd h hx rfl (hb hb' hd) rfl (hv ▸ k)) q
theorem w_isub (C : Ctx p l e R s m args below meth c Z a0 n0 own bytes ml ret T H kc ks) {x y v : Int32} (hd : decode bytes pc = .ok (.isub, 1)) (hp : pc + 1 = pc') (hv : x - y = v) (q : Go p e below K (T.setTop (mkF m pc' Ls (.int v :: S)))) : Go p e below K (T.setTop (mkF m pc Ls (.int y :: .int x :: S))) := by
  subst hp; exact C.pure (fun h hx hb' t k => XS.isub h hx rfl (hb hb' hd) rfl (hv ▸ k)) q
theorem w_imul (C : Ctx p l e R s m args below meth c Z a0 n0 own bytes ml ret T H kc ks) {x y v : Int32} (hd : decode bytes pc = .ok (.imul, 1)) (hp : pc + 1 = pc') (hv : x * y = v) (q : Go p e below K (T.setTop (mkF m pc' Ls (.int v :: S)))) : Go p e below K (T.setTop (mkF m pc Ls (.int y :: .int x :: S))) := by
  subst hp; exact C.pure (fun h hx hb' t k => XS.imul h hx rfl (hb hb' hd) rfl (hv ▸ k)) q
theorem w_iand (C : Ctx p l e R s m args below meth c Z a0 n0 own bytes ml ret T H kc ks) {x y v : Int32} (hd : decode bytes pc = .ok (.iand, 1)) (hp : pc + 1 = pc') (hv : x &&& y = v) (q : Go p e below K (T.setTop (mkF m pc' Ls (.int v :: S)))) : Go p e below K (T.setTop (mkF m pc Ls (.int y :: .int x :: S))) := by
  subst hp; exact C.pure (fun h hx hb' t k => XS.iand h hx rfl (hb hb' hd) rfl (hv ▸ k)) q
theorem w_ior (C : Ctx p l e R s m args below meth c Z a0 n0 own bytes ml ret T H kc ks) {x y v : Int32} (hd : decode bytes pc = .ok (.ior, 1)) (hp : pc + 1 = pc') (hv : x ||| y = v) (q : Go p e below K (T.setTop (mkF m pc' Ls (.int v :: S)))) : Go p e below K (T.setTop (mkF m pc Ls (.int y :: .int x :: S))) := by
  subst hp; exact C.pure (fun h hx hb' t k => XT.ior h hx rfl (hb hb' hd) rfl (hv ▸ k)) q
theorem w_ixor (C : Ctx p l e R s m args below meth c Z a0 n0 own bytes ml ret T H kc ks) {x y v : Int32} (hd : decode bytes pc = .ok (.ixor, 1)) (hp : pc + 1 = pc') (hv : x ^^^ y = v) (q : Go p e below K (T.setTop (mkF m pc' Ls (.int v :: S)))) : Go p e below K (T.setTop (mkF m pc Ls (.int y :: .int x :: S))) := by
  subst hp; exact C.pure (fun h hx hb' t k => XT.ixor h hx rfl (hb hb' hd) rfl (hv ▸ k)) q
theorem w_ishl (C : Ctx p l e R s m args below meth c Z a0 n0 own bytes ml ret T H kc ks) {x y v : Int32} (hd : decode bytes pc = .ok (.ishl, 1)) (hp : pc + 1 = pc') (hv : x <<< (y &&& 31) = v) (q : Go p e below K (T.setTop (mkF m pc' Ls (.int v :: S)))) : Go p e below K (T.setTop (mkF m pc Ls (.int y :: .int x :: S))) := by
  subst hp; exact C.pure (fun h hx hb' t k => XT.ishl h hx rfl (hb hb' hd) rfl (hv ▸ k)) q
theorem w_ishr (C : Ctx p l e R s m args below meth c Z a0 n0 own bytes ml ret T H kc ks) {x y v : Int32} (hd : decode bytes pc = .ok (.ishr, 1)) (hp : pc + 1 = pc') (hv : x >>> (y &&& 31) = v) (q : Go p e below K (T.setTop (mkF m pc' Ls (.int v :: S)))) : Go p e below K (T.setTop (mkF m pc Ls (.int y :: .int x :: S))) := by
  subst hp; exact C.pure (fun h hx hb' t k => XT.ishr h hx rfl (hb hb' hd) rfl (hv ▸ k)) q
theorem w_iushr (C : Ctx p l e R s m args below meth c Z a0 n0 own bytes ml ret T H kc ks) {x y v : Int32} (hd : decode bytes pc = .ok (.iushr, 1)) (hp : pc + 1 = pc') (hv : XT.ushr x y = v) (q : Go p e below K (T.setTop (mkF m pc' Ls (.int v :: S)))) : Go p e below K (T.setTop (mkF m pc Ls (.int y :: .int x :: S))) := by
  subst hp; exact C.pure (fun h hx hb' t k => XT.iushr h hx rfl (hb hb' hd) rfl (hv ▸ k)) q
theorem w_ladd (C : Ctx p l e R s m args below meth c Z a0 n0 own bytes ml ret T H kc ks) {x y v : Int64} (hd : decode bytes pc = .ok (.ladd, 1)) (hp : pc + 1 = pc') (hv : x + y = v) (q : Go p e below K (T.setTop (mkF m pc' Ls (.long v :: S)))) : Go p e below K (T.setTop (mkF m pc Ls (.long y :: .long x :: S))) := by
  subst hp; exact C.pure (fun h hx hb' t k => XT.ladd h hx rfl (hb hb' hd) rfl (hv ▸ k)) q
theorem w_lsub (C : Ctx p l e R s m args below meth c Z a0 n0 own bytes ml ret T H kc ks) {x y v : Int64} (hd : decode bytes pc = .ok (.lsub, 1)) (hp : pc + 1 = pc') (hv : x - y = v) (q : Go p e below K (T.setTop (mkF m pc' Ls (.long v :: S)))) : Go p e below K (T.setTop (mkF m pc Ls (.long y :: .long x :: S))) := by
  subst hp; exact C.pure (fun h hx hb' t k => XT.lsub h hx rfl (hb hb' hd) rfl (hv ▸ k)) q
theorem w_lmul (C : Ctx p l e R s m args below meth c Z a0 n0 own bytes ml ret T H kc ks) {x y v : Int64} (hd : decode bytes pc = .ok (.lmul, 1)) (hp : pc + 1 = pc') (hv : x * y = v) (q : Go p e below K (T.setTop (mkF m pc' Ls (.long v :: S)))) : Go p e below K (T.setTop (mkF m pc Ls (.long y :: .long x :: S))) := by
  subst hp; exact C.pure (fun h hx hb' t k => XT.lmul h hx rfl (hb hb' hd) rfl (hv ▸ k)) q
theorem w_land (C : Ctx p l e R s m args below meth c Z a0 n0 own bytes ml ret T H kc ks) {x y v : Int64} (hd : decode bytes pc = .ok (.land, 1)) (hp : pc + 1 = pc') (hv : x &&& y = v) (q : Go p e below K (T.setTop (mkF m pc' Ls (.long v :: S)))) : Go p e below K (T.setTop (mkF m pc Ls (.long y :: .long x :: S))) := by
  subst hp; exact C.pure (fun h hx hb' t k => XT.land h hx rfl (hb hb' hd) rfl (hv ▸ k)) q
theorem w_lshl (C : Ctx p l e R s m args below meth c Z a0 n0 own bytes ml ret T H kc ks) {x v : Int64} {y : Int32} (hd : decode bytes pc = .ok (.lshl, 1)) (hp : pc + 1 = pc') (hv : x <<< (y.toInt64 &&& 63) = v) (q : Go p e below K (T.setTop (mkF m pc' Ls (.long v :: S)))) : Go p e below K (T.setTop (mkF m pc Ls (.int y :: .long x :: S))) := by
  subst hp; exact C.pure (fun h hx hb' t k => XT.lshl h hx rfl (hb hb' hd) rfl (hv ▸ k)) q
theorem w_lshr (C : Ctx p l e R s m args below meth c Z a0 n0 own bytes ml ret T H kc ks) {x v : Int64} {y : Int32} (hd : decode bytes pc = .ok (.lshr, 1)) (hp : pc + 1 = pc') (hv : x >>> (y.toInt64 &&& 63) = v) (q : Go p e below K (T.setTop (mkF m pc' Ls (.long v :: S)))) : Go p e below K (T.setTop (mkF m pc Ls (.int y :: .long x :: S))) := by
  subst hp; exact C.pure (fun h hx hb' t k => XT.lshr h hx rfl (hb hb' hd) rfl (hv ▸ k)) q
theorem w_ldiv (C : Ctx p l e R s m args below meth c Z a0 n0 own bytes ml ret T H kc ks) {x y v : Int64} (hd : decode bytes pc = .ok (.ldiv, 1)) (hp : pc + 1 = pc') (hy : y ≠ 0) (hv : x / y = v) (q : Go p e below K (T.setTop (mkF m pc' Ls (.long v :: S)))) : Go p e below K (T.setTop (mkF m pc Ls (.long y :: .long x :: S))) := by
  subst hp; exact C.pure (fun h hx hb' t k => XT.ldiv h hx rfl (hb hb' hd) rfl hy (hv ▸ k)) q
theorem w_lrem (C : Ctx p l e R s m args below meth c Z a0 n0 own bytes ml ret T H kc ks) {x y v : Int64} (hd : decode bytes pc = .ok (.lrem, 1)) (hp : pc + 1 = pc') (hy : y ≠ 0) (hv : x - x / y * y = v) (q : Go p e below K (T.setTop (mkF m pc' Ls (.long v :: S)))) : Go p e below K (T.setTop (mkF m pc Ls (.long y :: .long x :: S))) := by
  subst hp; exact C.pure (fun h hx hb' t k => XT.lrem h hx rfl (hb hb' hd) rfl hy (hv ▸ k)) q
theorem w_irem (C : Ctx p l e R s m args below meth c Z a0 n0 own bytes ml ret T H kc ks) {x y v : Int32} (hd : decode bytes pc = .ok (.irem, 1)) (hp : pc + 1 = pc') (hy : y ≠ 0) (hv : x - x / y * y = v) (q : Go p e below K (T.setTop (mkF m pc' Ls (.int v :: S)))) : Go p e below K (T.setTop (mkF m pc Ls (.int y :: .int x :: S))) := by
  subst hp; exact C.pure (fun h hx hb' t k => XS.irem h hx rfl (hb hb' hd) rfl hy (hv ▸ k)) q
theorem w_ineg (C : Ctx p l e R s m args below meth c Z a0 n0 own bytes ml ret T H kc ks) {x v : Int32} (hd : decode bytes pc = .ok (.ineg, 1)) (hp : pc + 1 = pc') (hv : -x = v) (q : Go p e below K (T.setTop (mkF m pc' Ls (.int v :: S)))) : Go p e below K (T.setTop (mkF m pc Ls (.int x :: S))) := by
  subst hp; exact C.pure (fun h hx hb' t k => XS.ineg h hx rfl (hb hb' hd) rfl (hv ▸ k)) q
theorem w_i2l (C : Ctx p l e R s m args below meth c Z a0 n0 own bytes ml ret T H kc ks) {x : Int32} {v : Int64} (hd : decode bytes pc = .ok (.i2l, 1)) (hp : pc + 1 = pc') (hv : x.toInt64 = v) (q : Go p e below K (T.setTop (mkF m pc' Ls (.long v :: S)))) : Go p e below K (T.setTop (mkF m pc Ls (.int x :: S))) := by
  subst hp; exact C.pure (fun h hx hb' t k => XT.i2l h hx rfl (hb hb' hd) rfl (hv ▸ k)) q
theorem w_l2i (C : Ctx p l e R s m args below meth c Z a0 n0 own bytes ml ret T H kc ks) {x : Int64} {v : Int32} (hd : decode bytes pc = .ok (.l2i, 1)) (hp : pc + 1 = pc') (hv : x.toInt32 = v) (q : Go p e below K (T.setTop (mkF m pc' Ls (.int v :: S)))) : Go p e below K (T.setTop (mkF m pc Ls (.long x :: S))) := by
  subst hp; exact C.pure (fun h hx hb' t k => XT.l2i h hx rfl (hb hb' hd) rfl (hv ▸ k)) q
theorem w_i2b (C : Ctx p l e R s m args below meth c Z a0 n0 own bytes ml ret T H kc ks) {x v : Int32} (hd : decode bytes pc = .ok (.i2b, 1)) (hp : pc + 1 = pc') (hv : x.toInt8.toInt32 = v) (q : Go p e below K (T.setTop (mkF m pc' Ls (.int v :: S)))) : Go p e below K (T.setTop (mkF m pc Ls (.int x :: S))) := by
  subst hp; exact C.pure (fun h hx hb' t k => XT.i2b h hx rfl (hb hb' hd) rfl (hv ▸ k)) q
theorem w_i2s (C : Ctx p l e R s m args below meth c Z a0 n0 own bytes ml ret T H kc ks) {x v : Int32} (hd : decode bytes pc = .ok (.i2s, 1)) (hp : pc + 1 = pc') (hv : x.toInt16.toInt32 = v) (q : Go p e below K (T.setTop (mkF m pc' Ls (.int v :: S)))) : Go p e below K (T.setTop (mkF m pc Ls (.int x :: S))) := by
  subst hp; exact C.pure (fun h hx hb' t k => XT.i2s h hx rfl (hb hb' hd) rfl (hv ▸ k)) q
theorem w_lcmp (C : Ctx p l e R s m args below meth c Z a0 n0 own bytes ml ret T H kc ks) {x y : Int64} {v : Int32} (hd : decode bytes pc = .ok (.lcmp, 1)) (hp : pc + 1 = pc') (hv : XT.cmpL x y = v) (q : Go p e below K (T.setTop (mkF m pc' Ls (.int v :: S)))) : Go p e below K (T.setTop (mkF m pc Ls (.long y :: .long x :: S))) := by
  subst hp; exact C.pure (fun h hx hb' t k => XT.lcmp h hx rfl (hb hb' hd) rfl (hv ▸ k)) q
theorem w_iinc (C : Ctx p l e R s m args below meth c Z a0 n0 own bytes ml ret T H kc ks) {k' : Nat} {cst : Int} {x : Int32} {l' : Array Slot} (hd : decode bytes pc = .ok (.iinc k' cst, 3)) (hp : pc + 3 = pc') (hl : Ls[k']? = some (.val (.int x))) (hl' : storeLocals Ls k' (.int (x + Int32.ofInt cst)) = some l') (q : Go p e below K (T.setTop (mkF m pc' l' S))) : Go p e below K (T.setTop (mkF m pc Ls S)) := by
  subst hp; exact C.pure (fun h hx hb' t k => XS.iinc h hx rfl (hb hb' hd) hl hl' k) q
theorem w_dup (C : Ctx p l e R s m args below meth c Z a0 n0 own bytes ml ret T H kc ks) {v : Value} (hd : decode bytes pc = .ok (.dup, 1)) (hp : pc + 1 = pc') (hc : v.category = 1) (q : Go p e below K (T.setTop (mkF m pc' Ls (v :: v :: S)))) : Go p e below K (T.setTop (mkF m pc Ls (v :: S))) := by
  subst hp; exact C.pure (fun h hx hb' t k => XS.dup h hx rfl (hb hb' hd) rfl hc k) q
theorem w_pop (C : Ctx p l e R s m args below meth c Z a0 n0 own bytes ml ret T H kc ks) {v : Value} (hd : decode bytes pc = .ok (.pop, 1)) (hp : pc + 1 = pc') (hc : v.category = 1) (q : Go p e below K (T.setTop (mkF m pc' Ls S))) : Go p e below K (T.setTop (mkF m pc Ls (v :: S))) := by
  subst hp; exact C.pure (fun h hx hb' t k => XT.pop h hx rfl (hb hb' hd) rfl hc k) q
theorem w_dup2 (C : Ctx p l e R s m args below meth c Z a0 n0 own bytes ml ret T H kc ks) {v w : Value} (hd : decode bytes pc = .ok (.dup2, 1)) (hp : pc + 1 = pc') (hc : v.category = 1) (hc' : w.category = 1) (q : Go p e below K (T.setTop (mkF m pc' Ls (v :: w :: v :: w :: S)))) : Go p e below K (T.setTop (mkF m pc Ls (v :: w :: S))) := by
  subst hp; exact C.pure (fun h hx hb' t k => XT.dup2 h hx rfl (hb hb' hd) rfl hc hc' k) q

theorem w_goto (C : Ctx p l e R s m args below meth c Z a0 n0 own bytes ml ret T H kc ks) {o : Int} (hd : decode bytes pc = .ok (.goto o, 3)) (ho : 0 ≤ (pc : Int) + o) (hp : ((pc : Int) + o).toNat = pc') (q : Go p e below K (T.setTop (mkF m pc' Ls S))) : Go p e below K (T.setTop (mkF m pc Ls S)) :=
  C.pure (fun h hx hb' t k => XS.goto h hx rfl rfl (hb hb' hd) ho hp k) q
theorem w_if (C : Ctx p l e R s m args below meth c Z a0 n0 own bytes ml ret T H kc ks) {cd : ClassFile.Cond} {o : Int} {x : Int32} (b : Bool) (hd : decode bytes pc = .ok (.ifCond cd o, 3)) (hc : ifCond.holds cd x = b) (ho : 0 ≤ (pc : Int) + o) (hp : (if b then ((pc : Int) + o).toNat else pc + 3) = pc') (q : Go p e below K (T.setTop (mkF m pc' Ls S))) : Go p e below K (T.setTop (mkF m pc Ls (.int x :: S))) := by
  cases b
  · subst hp; exact C.pure (fun h hx hb' t k => XS.ifNo h hx rfl (hb hb' hd) rfl hc k) q
  · subst hp; exact C.pure (fun h hx hb' t k => XS.ifYes h hx rfl rfl (hb hb' hd) rfl hc ho rfl k) q
theorem w_icmp (C : Ctx p l e R s m args below meth c Z a0 n0 own bytes ml ret T H kc ks) {cd : ClassFile.Cond} {o : Int} {x y : Int32} (b : Bool) (hd : decode bytes pc = .ok (.if_icmp cd o, 3)) (hc : if_icmp.holds cd x y = b) (ho : 0 ≤ (pc : Int) + o) (hp : (if b then ((pc : Int) + o).toNat else pc + 3) = pc') (q : Go p e below K (T.setTop (mkF m pc' Ls S))) : Go p e below K (T.setTop (mkF m pc Ls (.int y :: .int x :: S))) := by
  cases b
  · subst hp; exact C.pure (fun h hx hb' t k => XS.icmpNo h hx rfl (hb hb' hd) rfl hc k) q
  · subst hp; exact C.pure (fun h hx hb' t k => XS.icmpYes h hx rfl rfl (hb hb' hd) rfl hc ho rfl k) q
theorem w_acmp (C : Ctx p l e R s m args below meth c Z a0 n0 own bytes ml ret T H kc ks) {cd : ClassFile.ACond} {o : Int} {x y : Value} (b : Bool) (hd : decode bytes pc = .ok (.if_acmp cd o, 3)) (hc : XT.acmp cd x y = b) (hx' : x.isRef = true) (hy' : y.isRef = true) (ho : 0 ≤ (pc : Int) + o) (hp : (if b then ((pc : Int) + o).toNat else pc + 3) = pc') (q : Go p e below K (T.setTop (mkF m pc' Ls S))) : Go p e below K (T.setTop (mkF m pc Ls (y :: x :: S))) := by
  cases b
  · subst hp; exact C.pure (fun h hx hb' t k => XT.acmpNo h hx rfl (hb hb' hd) rfl hx' hy' hc k) q
  · subst hp; exact C.pure (fun h hx hb' t k => XT.acmpYes h hx rfl rfl (hb hb' hd) rfl hx' hy' hc ho rfl k) q
theorem w_nonnull (C : Ctx p l e R s m args below meth c Z a0 n0 own bytes ml ret T H kc ks) {o : Int} {b : Addr} (hd : decode bytes pc = .ok (.ifnonnull o, 3)) (ho : 0 ≤ (pc : Int) + o) (hp : ((pc : Int) + o).toNat = pc') (q : Go p e below K (T.setTop (mkF m pc' Ls S))) : Go p e below K (T.setTop (mkF m pc Ls (.ref b :: S))) :=
  C.pure (fun h hx hb' t k => XT.ifnonnullYes h hx rfl rfl (hb hb' hd) rfl ho hp k) q
theorem w_ldcI (C : Ctx p l e R s m args below meth c Z a0 n0 own bytes ml ret T H kc ks) {i : Nat} {v : Int32} (w : (Cond.constant own i v).before a0 Z = true) (hd : decode bytes pc = .ok (.ldc i, 2)) (hp : pc + 2 = pc') (q : Go p e below K (T.setTop (mkF m pc' Ls (.int v :: S)))) : Go p e below K (T.setTop (mkF m pc Ls S)) := by
  obtain ⟨⟨_, _, _, X, -⟩, -, -, hx, hZ, hown, hby, -⟩ := C
  obtain ⟨n, h1, h2⟩ := q
  subst hp
  exact ⟨n, Jvm.Stand.ldcI (g := mkF m pc Ls S) X hx hown (mv hZ w) rfl (hb hby hd) h1, h2⟩
theorem w_ldcL (C : Ctx p l e R s m args below meth c Z a0 n0 own bytes ml ret T H kc ks) {i : Nat} {v : Int64} (w : (Cond.constantLong own i v).before a0 Z = true) (hd : decode bytes pc = .ok (.ldc2_w i, 3)) (hp : pc + 3 = pc') (q : Go p e below K (T.setTop (mkF m pc' Ls (.long v :: S)))) : Go p e below K (T.setTop (mkF m pc Ls S)) := by
  obtain ⟨⟨_, _, _, X, -⟩, -, -, hx, hZ, hown, hby, -⟩ := C
  obtain ⟨n, h1, h2⟩ := q
  subst hp
  exact ⟨n, Jvm.Stand.ldc2J (g := mkF m pc Ls S) X hx hown (mv hZ w) rfl (hb hby hd) h1, h2⟩
theorem w_ldcD (C : Ctx p l e R s m args below meth c Z a0 n0 own bytes ml ret T H kc ks) {i : Nat} {v : UInt64} (w : (Cond.constantDouble own i v).before a0 Z = true) (hd : decode bytes pc = .ok (.ldc2_w i, 3)) (hp : pc + 3 = pc') (q : Go p e below K (T.setTop (mkF m pc' Ls (.double v :: S)))) : Go p e below K (T.setTop (mkF m pc Ls S)) := by
  obtain ⟨⟨_, _, _, X, -⟩, -, -, hx, hZ, hown, hby, -⟩ := C
  obtain ⟨n, h1, h2⟩ := q
  subst hp
  exact ⟨n, X.ldc2DoubleC (g := mkF m pc Ls S) hx hown (mv hZ w) rfl (hb hby hd) n h1, h2⟩
/-! arrays -/
theorem idx32 {j : Int32} {i : Nat} {k : Nat} (hj : j = Int32.ofNat i) (hi : i < k) (hk : k < 2147483648) : ¬ (j < 0 ∨ k ≤ j.toNatClampNeg) ∧ j.toNatClampNeg = i := by
  subst hj
  have q : (Int32.ofNat i).toInt = i := Int32.toInt_ofNat_of_lt (by omega)
  have z : (0 : Int32).toInt = 0 := rfl
  simp only [Int32.lt_iff_toInt_lt, Int32.toNatClampNeg, q, z]; omega
theorem w_arraylength (C : Ctx p l e R s m args below meth c Z a0 n0 own bytes ml ret T H kc ks) (i : Nat) {a : Addr} {ty : FieldType} {xs : List Value} {v : Int32} (hi : H[i]? = some (a, .inl (ty, xs))) (hv : xs.length.toInt32 = v) (hd : decode bytes pc = .ok (.arraylength, 1)) (hp : pc + 1 = pc') (q : Go p e below K (T.setTop (mkF m pc' Ls (.int v :: S)))) : Go p e below K (T.setTop (mkF m pc Ls (.ref a :: S))) := by
  obtain ⟨⟨_, _, _, X, -⟩, P, -, hx, hZ, hown, hby, -⟩ := C
  obtain ⟨n, h1, h2⟩ := q
  obtain ⟨cl, A, e1, hE⟩ := (P.at hi).1
  subst hp hv
  refine ⟨n, X.arraylength (g := mkF m pc Ls (.ref a :: S)) hx A.1 (State.isArrayOf_alike hZ.alike A.2.1) rfl rfl (hb hby hd) n ?_, h2⟩
  rw [e1]; simpa using h1
theorem w_iaload (C : Ctx p l e R s m args below meth c Z a0 n0 own bytes ml ret T H kc ks) (i k : Nat) {a : Addr} {xs : List Value} {j : Int32} {v : Value} (hi : H[i]? = some (a, .inl (.int, xs))) (hj : j = Int32.ofNat k) (hv : xs[k]? = some v) (hk : xs.length < 2147483648) (hd : decode bytes pc = .ok (.iaload, 1)) (hp : pc + 1 = pc') (q : Go p e below K (T.setTop (mkF m pc' Ls (v :: S)))) : Go p e below K (T.setTop (mkF m pc Ls (.int j :: .ref a :: S))) := by
  obtain ⟨⟨_, _, _, X, -⟩, P, -, hx, hZ, hown, hby, -⟩ := C
  obtain ⟨n, h1, h2⟩ := q
  obtain ⟨cl, A, e1, hE⟩ := (P.at hi).1
  obtain ⟨q1, q2⟩ := idx32 hj (List.getElem?_eq_some_iff.mp hv).1 hk
  subst hp
  exact ⟨n, X.iaload (g := mkF m pc Ls (.int j :: .ref a :: S)) hx A.1 (State.isArrayOf_alike hZ.alike A.2.1) A.2.2 (by rw [e1]; simpa using q1) (by rw [e1, q2]; simpa using hv) rfl rfl (hb hby hd) n h1, h2⟩
theorem w_laload (C : Ctx p l e R s m args below meth c Z a0 n0 own bytes ml ret T H kc ks) (i k : Nat) {a : Addr} {xs : List Value} {j : Int32} {v : Value} (hi : H[i]? = some (a, .inl (.long, xs))) (hj : j = Int32.ofNat k) (hv : xs[k]? = some v) (hk : xs.length < 2147483648) (hd : decode bytes pc = .ok (.laload, 1)) (hp : pc + 1 = pc') (q : Go p e below K (T.setTop (mkF m pc' Ls (v :: S)))) : Go p e below K (T.setTop (mkF m pc Ls (.int j :: .ref a :: S))) := by
  obtain ⟨⟨_, _, _, X, -⟩, P, -, hx, hZ, hown, hby, -⟩ := C
  obtain ⟨n, h1, h2⟩ := q
  obtain ⟨cl, A, e1, hE⟩ := (P.at hi).1
  obtain ⟨q1, q2⟩ := idx32 hj (List.getElem?_eq_some_iff.mp hv).1 hk
  subst hp
  exact ⟨n, X.laload (g := mkF m pc Ls (.int j :: .ref a :: S)) hx A.1 (State.isArrayOf_alike hZ.alike A.2.1) A.2.2 (by rw [e1]; simpa using q1) (by rw [e1, q2]; simpa using hv) rfl rfl (hb hby hd) n h1, h2⟩
theorem w_daload (C : Ctx p l e R s m args below meth c Z a0 n0 own bytes ml ret T H kc ks) (i k : Nat) {a : Addr} {xs : List Value} {j : Int32} {v : Value} (hi : H[i]? = some (a, .inl (.double, xs))) (hj : j = Int32.ofNat k) (hv : xs[k]? = some v) (hk : xs.length < 2147483648) (hd : decode bytes pc = .ok (.daload, 1)) (hp : pc + 1 = pc') (q : Go p e below K (T.setTop (mkF m pc' Ls (v :: S)))) : Go p e below K (T.setTop (mkF m pc Ls (.int j :: .ref a :: S))) := by
  obtain ⟨⟨_, _, _, X, -⟩, P, -, hx, hZ, hown, hby, -⟩ := C
  obtain ⟨n, h1, h2⟩ := q
  obtain ⟨cl, A, e1, hE⟩ := (P.at hi).1
  obtain ⟨q1, q2⟩ := idx32 hj (List.getElem?_eq_some_iff.mp hv).1 hk
  subst hp
  exact ⟨n, X.daload (g := mkF m pc Ls (.int j :: .ref a :: S)) hx A.1 (State.isArrayOf_alike hZ.alike A.2.1) A.2.2 (by rw [e1]; simpa using q1) (by rw [e1, q2]; simpa using hv) rfl rfl (hb hby hd) n h1, h2⟩
theorem w_daloadX (C : Ctx p l e R s m args below meth c Z a0 n0 own bytes ml ret T H kc ks) (i : Nat) {a : Addr} {xs : List Value} {j : Int32} {v : Value} (hi : H[i]? = some (a, .inl (.double, xs))) (hj : 0 ≤ j.toInt) (hv : xs[j.toNatClampNeg]? = some v) (hd : decode bytes pc = .ok (.daload, 1)) (hp : pc + 1 = pc') (q : Go p e below K (T.setTop (mkF m pc' Ls (v :: S)))) : Go p e below K (T.setTop (mkF m pc Ls (.int j :: .ref a :: S))) := by
  obtain ⟨⟨_, _, _, X, -⟩, P, -, hx, hZ, hown, hby, -⟩ := C
  obtain ⟨n, h1, h2⟩ := q
  obtain ⟨cl, A, e1, hE⟩ := (P.at hi).1
  have q1 := (List.getElem?_eq_some_iff.mp hv).1
  have q2 : ¬ j < 0 := by rw [Int32.lt_iff_toInt_lt]; exact Int.not_lt.mpr hj
  subst hp
  exact ⟨n, X.daload (g := mkF m pc Ls (.int j :: .ref a :: S)) hx A.1 (State.isArrayOf_alike hZ.alike A.2.1) A.2.2 (by rw [e1]; simpa using ⟨Int32.not_lt.mp q2, q1⟩) (by rw [e1]; simpa using hv) rfl rfl (hb hby hd) n h1, h2⟩
theorem w_laloadX (C : Ctx p l e R s m args below meth c Z a0 n0 own bytes ml ret T H kc ks) (i : Nat) {a : Addr} {xs : List Value} {j : Int32} {v : Value} (hi : H[i]? = some (a, .inl (.long, xs))) (hj : 0 ≤ j.toInt) (hv : xs[j.toNatClampNeg]? = some v) (hd : decode bytes pc = .ok (.laload, 1)) (hp : pc + 1 = pc') (q : Go p e below K (T.setTop (mkF m pc' Ls (v :: S)))) : Go p e below K (T.setTop (mkF m pc Ls (.int j :: .ref a :: S))) := by
  obtain ⟨⟨_, _, _, X, -⟩, P, -, hx, hZ, hown, hby, -⟩ := C
  obtain ⟨n, h1, h2⟩ := q
  obtain ⟨cl, A, e1, hE⟩ := (P.at hi).1
  have q1 := (List.getElem?_eq_some_iff.mp hv).1
  have q2 : ¬ j < 0 := by rw [Int32.lt_iff_toInt_lt]; exact Int.not_lt.mpr hj
  subst hp
  exact ⟨n, X.laload (g := mkF m pc Ls (.int j :: .ref a :: S)) hx A.1 (State.isArrayOf_alike hZ.alike A.2.1) A.2.2 (by rw [e1]; simpa using ⟨Int32.not_lt.mp q2, q1⟩) (by rw [e1]; simpa using hv) rfl rfl (hb hby hd) n h1, h2⟩
theorem Ctx.stored (C : Ctx p l e R s m args below meth c Z a0 n0 own bytes ml ret T H kc ks) {i : Nat} {a : Addr} {sl : Nat} {v : Value} {d d' : FieldType × List Value ⊕ String × List (String × String × String × Value)} {T' : State} {H' : List Ent} (hi : H[i]? = some (a, d)) (hH : H.set i (a, d') = H')
    (X' : ∀ locs cells slots, Stand p l e R s m args below meth c T locs cells slots → Stand p l e R s m args below meth c T' (locs ++ [⟨a, sl⟩]) cells slots) (W : Wr T.heap T'.heap a sl v) (A : Is Z a0 T'.heap (a, d')) : Ctx p l e R s m args below meth c Z a0 n0 own bytes ml ret T' H' kc ks := by
  obtain ⟨⟨locs, cells, slots, X, N, b1, b2⟩, P, O, r⟩ := C
  subst hH
  exact ⟨⟨_, _, _, X' _ _ _ X, Fr.snoc (X' _ _ _ X) N (P.at hi).2, b1, b2⟩, P.set hi W A, O.trans (Old.wr W (P.at hi).2), r⟩
theorem w_dastore (C : Ctx p l e R s m args below meth c Z a0 n0 own bytes ml ret T H kc ks) (i k : Nat) {a : Addr} {xs : List Value} {j : Int32} {x : UInt64} {H' : List Ent} (hi : H[i]? = some (a, .inl (.double, xs))) (hj : j = Int32.ofNat k) (hk : k < xs.length) (hk' : xs.length < 2147483648) (hH : H.set i (a, .inl (.double, xs.set k (.double x))) = H') (hd : decode bytes pc = .ok (.dastore, 1)) (hp : pc + 1 = pc')
    (q : ∀ T', Ctx p l e R s m args below meth c Z a0 n0 own bytes ml ret T' H' kc ks → Go p e below K (T'.setTop (mkF m pc' Ls S))) : Go p e below K (T.setTop (mkF m pc Ls (.double x :: .int j :: .ref a :: S))) := by
  have C' := C
  obtain ⟨⟨locs, cells, slots, X, N, b1, b2⟩, P, O, hx, hZ, hown, hby, r⟩ := C'
  obtain ⟨cl, A, e1, hE⟩ := (P.at hi).1
  obtain ⟨q1, q2⟩ := idx32 hj hk hk'
  subst hp
  obtain ⟨T', h', X', e', W, st⟩ := stD (g := mkF m pc Ls (.double x :: .int j :: .ref a :: S)) X hx hZ rfl A (j := j) (x := x) (by rw [e1]; simpa using q1) rfl rfl (hb hby hd)
  subst e'
  rw [q2] at W X'
  have hA : Is Z a0 T'.heap (a, .inl (.double, xs.set k (.double x))) := Ay.set W ⟨cl, A, e1, hE⟩
  obtain ⟨n, h1, h2⟩ := q T' ⟨⟨_, _, _, X', Fr.snoc X' N (P.at hi).2, b1, b2⟩, hH ▸ P.set hi W hA, O.trans (Old.wr W (P.at hi).2), hx, hZ, hown, hby, r⟩
  exact ⟨n, st n h1, h2⟩
theorem w_iastore (C : Ctx p l e R s m args below meth c Z a0 n0 own bytes ml ret T H kc ks) (i k : Nat) {a : Addr} {xs : List Value} {j : Int32} {x : Int32} {H' : List Ent} (hi : H[i]? = some (a, .inl (.int, xs))) (hj : j = Int32.ofNat k) (hk : k < xs.length) (hk' : xs.length < 2147483648) (hH : H.set i (a, .inl (.int, xs.set k (.int x))) = H') (hd : decode bytes pc = .ok (.iastore, 1)) (hp : pc + 1 = pc')
    (q : ∀ T', Ctx p l e R s m args below meth c Z a0 n0 own bytes ml ret T' H' kc ks → Go p e below K (T'.setTop (mkF m pc' Ls S))) : Go p e below K (T.setTop (mkF m pc Ls (.int x :: .int j :: .ref a :: S))) := by
  have C' := C
  obtain ⟨⟨locs, cells, slots, X, N, b1, b2⟩, P, O, hx, hZ, hown, hby, r⟩ := C'
  obtain ⟨cl, A, e1, hE⟩ := (P.at hi).1
  obtain ⟨q1, q2⟩ := idx32 hj hk hk'
  subst hp
  obtain ⟨T', h', X', e', W, st⟩ := stI (g := mkF m pc Ls (.int x :: .int j :: .ref a :: S)) X hx hZ rfl A (j := j) (x := x) (by rw [e1]; simpa using q1) rfl rfl (hb hby hd)
  subst e'
  rw [q2] at W X'
  have hA : Is Z a0 T'.heap (a, .inl (.int, xs.set k (.int x))) := Ay.set W ⟨cl, A, e1, hE⟩
  obtain ⟨n, h1, h2⟩ := q T' ⟨⟨_, _, _, X', Fr.snoc X' N (P.at hi).2, b1, b2⟩, hH ▸ P.set hi W hA, O.trans (Old.wr W (P.at hi).2), hx, hZ, hown, hby, r⟩
  exact ⟨n, st n h1, h2⟩
theorem w_lastore (C : Ctx p l e R s m args below meth c Z a0 n0 own bytes ml ret T H kc ks) (i k : Nat) {a : Addr} {xs : List Value} {j : Int32} {x : Int64} {H' : List Ent} (hi : H[i]? = some (a, .inl (.long, xs))) (hj : j = Int32.ofNat k) (hk : k < xs.length) (hk' : xs.length < 2147483648) (hH : H.set i (a, .inl (.long, xs.set k (.long x))) = H') (hd : decode bytes pc = .ok (.lastore, 1)) (hp : pc + 1 = pc')
    (q : ∀ T', Ctx p l e R s m args below meth c Z a0 n0 own bytes ml ret T' H' kc ks → Go p e below K (T'.setTop (mkF m pc' Ls S))) : Go p e below K (T.setTop (mkF m pc Ls (.long x :: .int j :: .ref a :: S))) := by
  have C' := C
  obtain ⟨⟨locs, cells, slots, X, N, b1, b2⟩, P, O, hx, hZ, hown, hby, r⟩ := C'
  obtain ⟨cl, A, e1, hE⟩ := (P.at hi).1
  obtain ⟨q1, q2⟩ := idx32 hj hk hk'
  subst hp
  obtain ⟨T', h', X', e', W, st⟩ := stJ (g := mkF m pc Ls (.long x :: .int j :: .ref a :: S)) X hx hZ rfl A (j := j) (x := x) (by rw [e1]; simpa using q1) rfl rfl (hb hby hd)
  subst e'
  rw [q2] at W X'
  have hA : Is Z a0 T'.heap (a, .inl (.long, xs.set k (.long x))) := Ay.set W ⟨cl, A, e1, hE⟩
  obtain ⟨n, h1, h2⟩ := q T' ⟨⟨_, _, _, X', Fr.snoc X' N (P.at hi).2, b1, b2⟩, hH ▸ P.set hi W hA, O.trans (Old.wr W (P.at hi).2), hx, hZ, hown, hby, r⟩
  exact ⟨n, st n h1, h2⟩
theorem w_newarray (C : Ctx p l e R s m args below meth c Z a0 n0 own bytes ml ret T H kc ks) (k : Nat) {aty : ArrayType} {n : Int32} {xs : List Value} {kc' ks' : Nat} (w : (Cond.arrayClass (newarray.typeOf aty)).before a0 Z = true) (hn : n = Int32.ofNat k) (hk : k < 1000) (hxs : List.replicate k (defaultValue (newarray.typeOf aty)) = xs) (hkc : kc + 1 = kc') (hks : ks + k = ks') (hc : kc' ≤ R.cells) (hl : ks' ≤ R.slots) (hd : decode bytes pc = .ok (.newarray aty, 2)) (hp : pc + 2 = pc')
    (q : ∀ T' a, Ctx p l e R s m args below meth c Z a0 n0 own bytes ml ret T' (H ++ [(a, .inl (newarray.typeOf aty, xs))]) kc' ks' → Go p e below K (T'.setTop (mkF m pc' Ls (.ref a :: S)))) : Go p e below K (T.setTop (mkF m pc Ls (.int n :: S))) := by
  obtain ⟨⟨locs, cells, slots, X, N, b1, b2⟩, P, O, hx, hZ, hown, hby, r1, r2, r3, -, -⟩ := C
  obtain ⟨q1, q2⟩ := idx32 (k := k + 1) hn (by omega) (by omega)
  subst hp hkc hks
  obtain ⟨T', h', cA, X', e', E, A, hE, st⟩ := newPE (ad := "[" ++ (newarray.typeOf aty).toString) (g := mkF m pc Ls (.int n :: S)) X hx hZ w rfl rfl (hb hby hd) rfl (fun z => q1 (Or.inl z)) (cap := k) (by omega) (by omega) (by omega) (by omega) rfl
  subst e'
  have hA : Is Z a0 T'.heap (T.heap.size, .inl (newarray.typeOf aty, xs)) := ⟨_, A, by simp [newA, q2, ← hxs], hE⟩
  obtain ⟨n', h1, h2⟩ := q T' _ ⟨⟨_, _, _, X', N, by omega, by omega⟩, P.push E hA, O.trans (Old.ext E), hx, hZ, hown, hby, r1, r2, r3, hc, hl⟩
  exact ⟨n', st n' h1, h2⟩
/-! fields -/
theorem w_new (C : Ctx p l e R s m args below meth c Z a0 n0 own bytes ml ret T H kc ks) {i : Nat} {C0 : String} {k : Nat} {fs : List (String × String × String × Value)} {kc' ks' : Nat} (w : (Cond.classLink own i C0).before a0 Z = true) (wi : (Cond.instantiable C0 k).before a0 Z = true) (wz : (Cond.initialized C0).before a0 Z = true)
    (hf : ∀ f ∈ fs, Laid Z a0 C0 f.1 f.2.1 f.2.2.1 ∧ ∃ t, parseFieldDescriptor f.2.2.1 = some t ∧ defaultValue t = f.2.2.2) (hu : fs.Pairwise (fun f g => f.2.1 ≠ g.2.1)) (hkc : kc + 1 = kc') (hks : ks + k = ks') (hc : kc' ≤ R.cells) (hl : ks' ≤ R.slots) (hd : decode bytes pc = .ok (.new i, 3)) (hp : pc + 3 = pc')
    (q : ∀ T' a, Ctx p l e R s m args below meth c Z a0 n0 own bytes ml ret T' (H ++ [(a, .inr (C0, fs))]) kc' ks' → Go p e below K (T'.setTop (mkF m pc' Ls (.ref a :: S)))) : Go p e below K (T.setTop (mkF m pc Ls S)) := by
  obtain ⟨⟨locs, cells, slots, X, N, b1, b2⟩, P, O, hx, hZ, hown, hby, r1, r2, r3, -, -⟩ := C
  subst hp hkc hks
  obtain ⟨T', h', X', e', E, A, D, -, st⟩ := newO (g := mkF m pc Ls S) X hx hZ hown w wi wz rfl rfl (hb hby hd) (by omega) (by omega)
  subst e'
  have hA : Is Z a0 T'.heap (T.heap.size, .inr (C0, fs)) := ⟨A, fun f hm => by
    obtain ⟨g1, t, g2, g3⟩ := hf f hm
    exact ⟨g3 ▸ D g1 g2, g1, t, g2⟩, ⟨k, wi⟩, hu⟩
  obtain ⟨n', h1, h2⟩ := q T' _ ⟨⟨_, _, _, X', N, by omega, by omega⟩, P.push E hA, O.trans (Old.ext E), hx, hZ, hown, hby, r1, r2, r3, hc, hl⟩
  exact ⟨n', st n' h1, h2⟩
theorem w_getfield (C : Ctx p l e R s m args below meth c Z a0 n0 own bytes ml ret T H kc ks) (i k : Nat) {ix : Nat} {a : Addr} {C0 O0 nm d : String} {v : Value} {fs : List (String × String × String × Value)} (w : (Cond.fieldLink own ix O0 nm d).before a0 Z = true) (hi : H[i]? = some (a, .inr (C0, fs))) (hk : fs[k]? = some (O0, nm, d, v)) (hd : decode bytes pc = .ok (.getfield ix, 3)) (hp : pc + 3 = pc')
    (q : ∀ T', Ctx p l e R s m args below meth c Z a0 n0 own bytes ml ret T' H kc ks → Go p e below K (T'.setTop (mkF m pc' Ls (v :: S)))) : Go p e below K (T.setTop (mkF m pc Ls (.ref a :: S))) := by
  obtain ⟨⟨locs, cells, slots, X, N, b1, b2⟩, P, O, hx, hZ, hown, hby, r⟩ := C
  obtain ⟨-, h2, -⟩ := (P.at hi).1
  obtain ⟨k1, k2⟩ := List.getElem?_eq_some_iff.mp hk
  have F := (h2 _ (List.getElem_mem k1)).1
  rw [k2] at F
  subst hp
  obtain ⟨T', X', e', st⟩ := getF (g := mkF m pc Ls (.ref a :: S)) X hx hZ hown (host := "") (Or.inl w) Via.refl rfl F rfl rfl (hb hby hd)
  obtain ⟨n', h1, h2⟩ := q T' ⟨⟨_, _, _, X', N, b1, b2⟩, by rw [e']; exact P, by rw [e']; exact O, hx, hZ, hown, hby, r⟩
  exact ⟨n', st n' h1, h2⟩
theorem w_putfield (C : Ctx p l e R s m args below meth c Z a0 n0 own bytes ml ret T H kc ks) (i k : Nat) {ix kk : Nat} {a : Addr} {C0 O0 nm d : String} {v old : Value} {ty : FieldType} {fs : List (String × String × String × Value)} {H' : List Ent} (w : (Cond.fieldLink own ix O0 nm d).before a0 Z = true) (hi : H[i]? = some (a, .inr (C0, fs))) (hk : fs[k]? = some (O0, nm, d, old))
    (L : (Cond.lays C0 O0 nm d).before a0 Z = true ∨ ((Cond.laysFinal C0 O0 nm d).before a0 Z = true ∧ own = O0 ∧ meth.name = "<init>")) (wi : (Cond.instantiable C0 kk).before a0 Z = true) (hty : parseFieldDescriptor d = some ty) (hn : narrow ty v = v) (hfit : fits ty v = true) (hH : H.set i (a, .inr (C0, fs.set k (O0, nm, d, v))) = H') (hd : decode bytes pc = .ok (.putfield ix, 3)) (hp : pc + 3 = pc')
    (q : ∀ T', Ctx p l e R s m args below meth c Z a0 n0 own bytes ml ret T' H' kc ks → Go p e below K (T'.setTop (mkF m pc' Ls S))) : Go p e below K (T.setTop (mkF m pc Ls (v :: .ref a :: S))) := by
  obtain ⟨⟨locs, cells, slots, X, N, b1, b2⟩, P, O, hx, hZ, hown, hby, r⟩ := C
  have B : Ob Z a0 T.heap a C0 fs := (P.at hi).1
  obtain ⟨hE, h2, -⟩ := id B
  obtain ⟨k1, k2⟩ := List.getElem?_eq_some_iff.mp hk
  have F := (h2 _ (List.getElem_mem k1)).1
  rw [k2] at F
  subst hp
  obtain ⟨T', h', X', e', W, st⟩ := putF (g := mkF m pc Ls (v :: .ref a :: S)) X hx hZ hown (host := "") (Or.inl w) Via.refl rfl F hE L wi hty hn hfit rfl rfl (hb hby hd)
  subst e'
  have hA : Is Z a0 T'.heap (a, .inr (C0, fs.set k (O0, nm, d, v))) := B.set hk W
  obtain ⟨n', h1, h2⟩ := q T' ⟨⟨_, _, _, X', Fr.snoc X' N (P.at hi).2, b1, b2⟩, hH ▸ P.set hi W hA, O.trans (Old.wr W (P.at hi).2), hx, hZ, hown, hby, r⟩
  exact ⟨n', st n' h1, h2⟩
theorem w_objInit (C : Ctx p l e R s m args below meth c Z a0 n0 own bytes ml ret T H kc ks) {ix : Nat} {a : Addr} (W : Nat) (w1 : (Cond.methodLink own ix ⟨"java/lang/Object", "<init>", "()V"⟩).before a0 Z = true) (w2 : (Cond.instanceMethod ⟨"java/lang/Object", "<init>", "()V"⟩).before a0 Z = true) (w3 : (Cond.code ⟨"java/lang/Object", "<init>", "()V"⟩ ⟨#[0xb1]⟩ 1 none).before a0 Z = true)
    (hsz : Ls.size = ml) (hW : (S.map fun v => v.category).sum ≤ W) (hf : 1 ≤ R.frames) (hl : W + 12 ≤ R.locals) (hd : decode bytes pc = .ok (.invokespecial ix, 3)) (hp : pc + 3 = pc')
    (q : ∀ T', Ctx p l e R s m args below meth c Z a0 n0 own bytes ml ret T' H kc ks → Go p e below K (T'.setTop (mkF m pc' Ls S))) : Go p e below K (T.setTop (mkF m pc Ls (.ref a :: S))) := by
  obtain ⟨⟨locs, cells, slots, X, N, b1, b2⟩, P, O, hx, hZ, hown, hby, r1, r⟩ := C
  subst hp
  obtain ⟨T', X', e', st⟩ := initO X hx hZ hown w1 w2 w3 rfl (g := mkF m pc Ls (.ref a :: S)) rfl (by rw [r1]; exact hsz) rfl (hb hby hd) hf (W := W) (by show 2 * 0 + _ ≤ _; omega) hl
  obtain ⟨n', h1, h2⟩ := q T' ⟨⟨_, _, _, X', N, b1, b2⟩, by rw [e']; exact P, by rw [e']; exact O, hx, hZ, hown, hby, r1, r⟩
  exact ⟨n', st n' h1, h2⟩
/-! returns -/
theorem Ctx.ends (C : Ctx p l e R s m args below meth c Z a0 n0 own bytes ml ret T H kc ks) {Q : Option Value → List Ent → Prop} {v : Option Value} (hv : ret = none → v = none) (hQ : Q v H) {S1 : State}
    (h : ∀ locs cells slots fs, Stand p l e R s m args below meth c T locs cells slots → (∀ (f : JFrame) (acts : List Action), f.method = m → f.locked = none → f.entered = [] → (doReturn e (T.setTop f) acts v).1 = T.setFrames fs) → Steps p.tables e below S1 (T.setFrames fs)) : Go p e below (Fini s below Z a0 n0 R.cells R.slots Q) S1 := by
  obtain ⟨⟨locs, cells, slots, X, N, b1, b2⟩, P, O, hx, hZ, hown, hby, r1, r2, r3, r4, r5⟩ := C
  obtain ⟨fs, hr, hrun, hended, hW, hsame⟩ := X.leave (v := v) (fun z => hv (r2.symm.trans z)) r3
  exact ⟨_, h _ _ _ fs X hr, v, locs, H, hrun, hended, hQ, P, O, N, ⟨_, rfl⟩, hW, hsame.mono (Nat.le_trans b1 r4) (Nat.le_trans b2 r5)⟩
theorem w_ireturn (C : Ctx p l e R s m args below meth c Z a0 n0 own bytes ml ret T H kc ks) {Q : Option Value → List Ent → Prop} {z : Int32} (hr : ret = some .int) (hd : decode bytes pc = .ok (.ireturn, 1)) (hQ : Q (some (.int z)) H) : Go p e below (Fini s below Z a0 n0 R.cells R.slots Q) (T.setTop (mkF m pc Ls (.int z :: S))) := by
  have C' := C
  obtain ⟨-, -, -, hx, -, -, hby, -, r2, -⟩ := C'
  exact C.ends (v := some (.int z)) (fun q => by rw [hr] at q; cases q) hQ fun _ _ _ fs X h => retOut X hx (r2.trans hr) rfl (Or.inl ⟨rfl, Or.inl rfl, z, rfl⟩) (hb hby hd) h
theorem w_zreturn (C : Ctx p l e R s m args below meth c Z a0 n0 own bytes ml ret T H kc ks) {Q : Option Value → List Ent → Prop} {z : Int32} (hr : ret = some .boolean) (hz : z &&& 1 = z) (hd : decode bytes pc = .ok (.ireturn, 1)) (hQ : Q (some (.int z)) H) : Go p e below (Fini s below Z a0 n0 R.cells R.slots Q) (T.setTop (mkF m pc Ls (.int z :: S))) := by
  have C' := C
  obtain ⟨-, -, -, hx, -, -, hby, -, r2, -⟩ := C'
  exact C.ends (v := some (.int z)) (fun q => by rw [hr] at q; cases q) hQ fun _ _ _ fs X h => retOut X hx (r2.trans hr) (by simp [narrow, hz]) (Or.inl ⟨rfl, Or.inr (Or.inl rfl), z, rfl⟩) (hb hby hd) h
theorem w_lreturn (C : Ctx p l e R s m args below meth c Z a0 n0 own bytes ml ret T H kc ks) {Q : Option Value → List Ent → Prop} {z : Int64} (hr : ret = some .long) (hd : decode bytes pc = .ok (.lreturn, 1)) (hQ : Q (some (.long z)) H) : Go p e below (Fini s below Z a0 n0 R.cells R.slots Q) (T.setTop (mkF m pc Ls (.long z :: S))) := by
  have C' := C
  obtain ⟨-, -, -, hx, -, -, hby, -, r2, -⟩ := C'
  exact C.ends (v := some (.long z)) (fun q => by rw [hr] at q; cases q) hQ fun _ _ _ fs X h => retOut X hx (r2.trans hr) rfl (Or.inr (Or.inl ⟨rfl, rfl, z, rfl⟩)) (hb hby hd) h
theorem w_dreturn (C : Ctx p l e R s m args below meth c Z a0 n0 own bytes ml ret T H kc ks) {Q : Option Value → List Ent → Prop} {z : UInt64} (hr : ret = some .double) (hd : decode bytes pc = .ok (.dreturn, 1)) (hQ : Q (some (.double z)) H) : Go p e below (Fini s below Z a0 n0 R.cells R.slots Q) (T.setTop (mkF m pc Ls (.double z :: S))) := by
  have C' := C
  obtain ⟨-, -, -, hx, -, -, hby, -, r2, -⟩ := C'
  exact C.ends (v := some (.double z)) (fun q => by rw [hr] at q; cases q) hQ fun _ _ _ fs X h => retOut X hx (r2.trans hr) rfl (Or.inr (Or.inr (Or.inl ⟨rfl, rfl, z, rfl⟩))) (hb hby hd) h
theorem w_areturn (C : Ctx p l e R s m args below meth c Z a0 n0 own bytes ml ret T H kc ks) {Q : Option Value → List Ent → Prop} {t : FieldType} {a : Addr} (hr : ret = some t) (ht : t.isReference = true) (hn : narrow t (.ref a) = .ref a) (hd : decode bytes pc = .ok (.areturn, 1)) (hQ : Q (some (.ref a)) H) : Go p e below (Fini s below Z a0 n0 R.cells R.slots Q) (T.setTop (mkF m pc Ls (.ref a :: S))) := by
  have C' := C
  obtain ⟨-, -, -, hx, -, -, hby, -, r2, -⟩ := C'
  exact C.ends (v := some (.ref a)) (fun q => by rw [hr] at q; cases q) hQ fun _ _ _ fs X h => retOut X hx (r2.trans hr) hn (Or.inr (Or.inr (Or.inr (Or.inr ⟨rfl, ht, rfl⟩)))) (hb hby hd) h
theorem w_return (C : Ctx p l e R s m args below meth c Z a0 n0 own bytes ml ret T H kc ks) {Q : Option Value → List Ent → Prop} (hr : ret = none) (hd : decode bytes pc = .ok (.return_, 1)) (hQ : Q none H) : Go p e below (Fini s below Z a0 n0 R.cells R.slots Q) (T.setTop (mkF m pc Ls [])) := by
  have C' := C
  obtain ⟨-, -, -, hx, -, -, hby, -, r2, -⟩ := C'
  exact C.ends (v := none) (fun _ => rfl) hQ fun _ _ _ fs X h => X.returnOut hx (r2.trans hr) (hb hby hd) h
end W
/-! ## What a method promises -/
def Con1 (l : Launch) (Z : State) (a0 : Array Value) (n0 : Nat) (y : MethodName) (bytes : ByteArray) (ml : Nat) (ret : Option FieldType) (rm : Room) (as : Array Value) (h0 : Heap) (ws : List Jvm.Cond) (Q : Option Value → List Ent → Prop) : Prop :=
  MetFree l y (head1 (Jvm.Cond.code y bytes ml ret :: ws) rm) (fun a U => a = as ∧ Z.Warmed39 U.vm ∧ U.heap = h0) (fun _ _ _ _ _ => True) (fun _ U o U' => ∃ v L, o = .returned v ∧ (∃ H', Q v H' ∧ Hp Z a0 n0 U'.heap H' ∧ Old n0 h0 U'.heap ∧ Fr n0 L) ∧ FrameEnd U o U' L rm.cells rm.slots)
def Con (l : Launch) (Z : State) (a0 : Array Value) (n0 : Nat) (y : MethodName) (bytes : ByteArray) (ml : Nat) (ret : Option FieldType) (rm : Room) (as : Array Value) (H : List Ent) (Q : Option Value → List Ent → Prop) : Prop :=
  ∀ (h0 : Heap) (ws : List Jvm.Cond), Hp Z a0 n0 h0 H → Con1 l Z a0 n0 y bytes ml ret rm as h0 ws Q
theorem Con1.of {l : Launch} {Z : State} {a0 : Array Value} {n0 : Nat} {y : MethodName} {bytes : ByteArray} {ml : Nat} {ret : Option FieldType} {rm : Room} {as : Array Value} {H : List Ent} {Q : Option Value → List Ent → Prop} {h0 : Heap} {ws : List Jvm.Cond} {Ls : Array Slot} (P : Hp Z a0 n0 h0 H) (hp : plainFor y = true) (ef : ∀ m, entryFrame m as ml = mkF m 0 Ls [])
    (body : ∀ (p : Program) (e : Env) (s : State) (m : MethodId) (below : List Frame) (meth : Method) (c : Code) (T : State), s.heap = h0 → meth.name = y.name → Ctx p l e rm s m as below meth c Z a0 n0 y.cls bytes ml ret T H 0 0 → Go p e below (Fini s below Z a0 n0 rm.cells rm.slots Q) (T.setTop (mkF m 0 Ls []))) : Con1 l Z a0 n0 y bytes ml ret rm as h0 ws Q := by
  refine MetFree.of_bodySF hp hisR ?_
  intro p e s m args below meth c s₁ Bd hml0 hP hK
  obtain ⟨rfl, hZ, hh⟩ := hP
  have e0 : s₁.heap = h0 := by rw [← hh, Bd.state]; rfl
  have X0 : Stand p l e rm s m args below meth c s₁ [] 0 0 := Stand.of_body Bd
  obtain ⟨n, g1, v, L, H', g2, g3, g4, g5, g6, g7, g8⟩ := body p e s m below meth c s₁ hh (name_of_methodNamed Bd.named Bd.method).1 ⟨⟨[], 0, 0, X0, Fr.nil n0, Nat.le_refl _, Nat.le_refl _⟩, by rw [e0]; exact P, by rw [e0, hh]; exact Old.refl _ _, Bd.exec, hZ, findClass_of_methodNamed Bd.named, Bd.bytes, hml0, Bd.returns, Bd.notSynchronized, Nat.zero_le _, Nat.zero_le _⟩
  exact ⟨n, _, castTop (ef m) g1, g2, g3, v, L, rfl, ⟨H', g4, g5, by rw [← hh]; exact g6, g7⟩, g8⟩
theorem Con.of {l : Launch} {Z : State} {a0 : Array Value} {n0 : Nat} {y : MethodName} {bytes : ByteArray} {ml : Nat} {ret : Option FieldType} {rm : Room} {as : Array Value} {H : List Ent} {Q : Option Value → List Ent → Prop} {Ls : Array Slot} (hp : plainFor y = true) (ef : ∀ m, entryFrame m as ml = mkF m 0 Ls [])
    (body : ∀ (p : Program) (e : Env) (s : State) (m : MethodId) (below : List Frame) (meth : Method) (c : Code) (T : State), meth.name = y.name → Ctx p l e rm s m as below meth c Z a0 n0 y.cls bytes ml ret T H 0 0 → Go p e below (Fini s below Z a0 n0 rm.cells rm.slots Q) (T.setTop (mkF m 0 Ls []))) : Con l Z a0 n0 y bytes ml ret rm as H Q :=
  fun h0 ws P => Con1.of P hp ef fun p e s m below meth c T _ hnm C => body p e s m below meth c T hnm C
section Calls
variable {p : Program} {l : Launch} {e : Env} {R : Room} {s : State} {m : MethodId} {args : Array Value} {below : List Frame} {meth : Method} {c : Code} {Z : State} {a0 : Array Value} {n0 : Nat} {own : String} {bytes : ByteArray} {ml : Nat} {ret : Option FieldType} {T : State} {H : List Ent} {kc ks : Nat} {K : State → Prop} {pc pc' : Nat} {Ls : Array Slot} {S : List Value}
theorem w_static (C : Ctx p l e R s m args below meth c Z a0 n0 own bytes ml ret T H kc ks) {ix : Nat} {y : MethodName} {by' : ByteArray} {ml' : Nat} {ret' : Option FieldType} {rm : Room} {Q : Option Value → List Ent → Prop} {ps : List FieldType} {rt : Option FieldType} {kc' ks' : Nat} {St : List Value} (W : Nat) (argsL : List Value)
    (cn : Con l Z a0 n0 y by' ml' ret' rm argsL.toArray H Q) (w1 : (Cond.methodLink own ix y).before a0 Z = true) (w2 : (Cond.static y).before a0 Z = true) (w3 : (Cond.initialized y.cls).before a0 Z = true) (w4 : (Cond.code y by' ml' ret').before a0 Z = true) (hy : y.cls ≠ "java/lang/invoke/MethodHandle" ∧ y.cls ≠ "java/lang/invoke/VarHandle")
    (pd : parseMethodDescriptor y.desc = some ⟨ps, rt⟩) (hlen : argsL.length = ps.length) (hst : St = argsL.reverse ++ S) (hsz : Ls.size = ml) (hW : (S.map fun v => v.category).sum ≤ W) (hf : rm.frames + 1 ≤ R.frames) (hlo : W + (ml' + 11) + rm.locals ≤ R.locals) (hkc : kc + rm.cells = kc') (hks : ks + rm.slots = ks') (hc : kc' ≤ R.cells) (hl : ks' ≤ R.slots) (hd : decode bytes pc = .ok (.invokestatic ix, 3)) (hp : pc + 3 = pc')
    (q : ∀ v T' H', Q v H' → Ctx p l e R s m args below meth c Z a0 n0 own bytes ml ret T' H' kc' ks' → Go p e below K (T'.setTop (mkF m pc' Ls (v.toList ++ S)))) : Go p e below K (T.setTop (mkF m pc Ls St)) := by
  obtain ⟨⟨locs, cells, slots, X, N, b1, b2⟩, P, O, hx, hZ, hown, hby, r1, r2, r3, -, -⟩ := C
  subst hp hkc hks hst
  obtain ⟨v, vm1, ⟨T', L', k', n'⟩, hW1, X', ⟨Lc, ⟨H', hQ, P', O', N'⟩, e1, e2, e3⟩, st⟩ := Jvm.LawKit.callS X hx (y := y) hown (mvT hZ w1) (mvT hZ w2) (mvT hZ w3) (mvT hZ w4) hy (backOf (W := W) (Q := fun v h L => ∃ H', Q v H' ∧ Hp Z a0 n0 h H' ∧ Old n0 T.heap h ∧ Fr n0 L) (cn T.heap [] P) hZ w4 w3 hf hlo) (g := mkF m pc Ls (argsL.reverse ++ S)) rfl (by rw [r1]; exact hsz) (argsL := argsL) (rest := S) (lenOf pd hlen) rfl (by show 2 * 0 + _ ≤ _; omega) (hb hby hd) (fun _ _ => ⟨rfl, rfl, by show cells + _ ≤ _; omega, by show slots + _ ≤ _; omega⟩)
  dsimp only [Pt.U, Pt.locs, Pt.cells, Pt.slots] at X' e1 e2 e3 st P' O'
  subst e1 e2 e3
  obtain ⟨n', h1, h2⟩ := q v T' H' hQ ⟨⟨_, _, _, X', N.app N', by omega, by omega⟩, P', O.trans O', hx, hZ, hown, hby, r1, r2, r3, hc, hl⟩
  exact ⟨n', st n' h1, h2⟩
theorem w_special (C : Ctx p l e R s m args below meth c Z a0 n0 own bytes ml ret T H kc ks) {ix : Nat} {y : MethodName} {by' : ByteArray} {ml' : Nat} {rm : Room} {Q : Option Value → List Ent → Prop} {ps : List FieldType} {rt : Option FieldType} {kc' ks' : Nat} {St : List Value} {a : Addr} (W : Nat) (argsL : List Value)
    (cn : Con l Z a0 n0 y by' ml' none rm (.ref a :: argsL).toArray H Q) (hin : y.name = "<init>") (w1 : (Cond.methodLink own ix y).before a0 Z = true) (w2 : (Cond.instanceMethod y).before a0 Z = true) (w3 : (Cond.initialized y.cls).before a0 Z = true) (w4 : (Cond.code y by' ml' none).before a0 Z = true) (hy : y.cls ≠ "java/lang/invoke/MethodHandle" ∧ y.cls ≠ "java/lang/invoke/VarHandle")
    (pd : parseMethodDescriptor y.desc = some ⟨ps, rt⟩) (hlen : argsL.length = ps.length) (hst : St = argsL.reverse ++ .ref a :: S) (hsz : Ls.size = ml) (hW : (S.map fun v => v.category).sum ≤ W) (hf : rm.frames + 1 ≤ R.frames) (hlo : W + (ml' + 11) + rm.locals ≤ R.locals) (hkc : kc + rm.cells = kc') (hks : ks + rm.slots = ks') (hc : kc' ≤ R.cells) (hl : ks' ≤ R.slots) (hd : decode bytes pc = .ok (.invokespecial ix, 3)) (hp : pc + 3 = pc')
    (q : ∀ v T' H', Q v H' → Ctx p l e R s m args below meth c Z a0 n0 own bytes ml ret T' H' kc' ks' → Go p e below K (T'.setTop (mkF m pc' Ls (v.toList ++ S)))) : Go p e below K (T.setTop (mkF m pc Ls St)) := by
  obtain ⟨⟨locs, cells, slots, X, N, b1, b2⟩, P, O, hx, hZ, hown, hby, r1, r2, r3, -, -⟩ := C
  subst hp hkc hks hst
  obtain ⟨v, vm1, ⟨T', L', k', n'⟩, hW1, X', ⟨Lc, ⟨H', hQ, P', O', N'⟩, e1, e2, e3⟩, st⟩ := X.specialBack hx (y := y) hin hown (mvT hZ w1) (mvT hZ w2) (mvT hZ w4) hy (backOf (W := W) (Q := fun v h L => ∃ H', Q v H' ∧ Hp Z a0 n0 h H' ∧ Old n0 T.heap h ∧ Fr n0 L) (cn T.heap [] P) hZ w4 w3 hf hlo) (g := mkF m pc Ls (argsL.reverse ++ .ref a :: S)) rfl (by rw [r1]; exact hsz) (Steps.refl _) (a := a) (argsL := argsL) (rest := S) (lenOf pd hlen) rfl (by show 2 * 0 + _ ≤ _; omega) (hb hby hd) (fun _ _ => ⟨rfl, rfl, by show cells + _ ≤ _; omega, by show slots + _ ≤ _; omega⟩)
  dsimp only [Pt.U, Pt.locs, Pt.cells, Pt.slots] at X' e1 e2 e3 st P' O'
  subst e1 e2 e3
  obtain ⟨n', h1, h2⟩ := q v T' H' hQ ⟨⟨_, _, _, X', N.app N', by omega, by omega⟩, P', O.trans O', hx, hZ, hown, hby, r1, r2, r3, hc, hl⟩
  exact ⟨n', st.trans h1, h2⟩
theorem w_virtual (C : Ctx p l e R s m args below meth c Z a0 n0 own bytes ml ret T H kc ks) {ix i : Nat} {y : MethodName} {by' : ByteArray} {ml' : Nat} {ret' : Option FieldType} {rm : Room} {Q : Option Value → List Ent → Prop} {ps : List FieldType} {rt : Option FieldType} {kc' ks' : Nat} {St : List Value} {a : Addr} {C0 : String} {fs : List (String × String × String × Value)} (W : Nat) (argsL : List Value)
    (cn : Con l Z a0 n0 y by' ml' ret' rm (.ref a :: argsL).toArray H Q) (hi : H[i]? = some (a, .inr (C0, fs))) (w1 : (Cond.methodLink own ix y).before a0 Z = true) (w2 : (Cond.declares y).before a0 Z = true) (w5 : (Cond.selects C0 y y).before a0 Z = true) (w6 : (Cond.instanceMethod y).before a0 Z = true) (w3 : (Cond.initialized y.cls).before a0 Z = true) (w4 : (Cond.code y by' ml' ret').before a0 Z = true) (hy : y.cls ≠ "java/lang/invoke/MethodHandle" ∧ y.cls ≠ "java/lang/invoke/VarHandle")
    (pd : parseMethodDescriptor y.desc = some ⟨ps, rt⟩) (hlen : argsL.length = ps.length) (hst : St = argsL.reverse ++ .ref a :: S) (hsz : Ls.size = ml) (hW : (S.map fun v => v.category).sum ≤ W) (hf : rm.frames + 1 ≤ R.frames) (hlo : W + (ml' + 11) + rm.locals ≤ R.locals) (hkc : kc + rm.cells = kc') (hks : ks + rm.slots = ks') (hc : kc' ≤ R.cells) (hl : ks' ≤ R.slots) (hd : decode bytes pc = .ok (.invokevirtual ix, 3)) (hp : pc + 3 = pc')
    (q : ∀ v T' H', Q v H' → Ctx p l e R s m args below meth c Z a0 n0 own bytes ml ret T' H' kc' ks' → Go p e below K (T'.setTop (mkF m pc' Ls (v.toList ++ S)))) : Go p e below K (T.setTop (mkF m pc Ls St)) := by
  obtain ⟨⟨locs, cells, slots, X, N, b1, b2⟩, P, O, hx, hZ, hown, hby, r1, r2, r3, -, -⟩ := C
  subst hp hkc hks hst
  have E : Exa Z T.heap a C0 := (P.at hi).1.1
  obtain ⟨cq, kq, qa, -, qc⟩ := isOf hZ rfl E
  obtain ⟨v, vm1, ⟨T', L', k', n'⟩, hW1, X', ⟨Lc, ⟨H', hQ, P', O', N'⟩, e1, e2, e3⟩, st⟩ := X.virtualBack hx (y := y) (z := y) hown (mvT hZ w1) (mvT hZ w2) (notFace_of_selects (args := #[]) (mvT hZ w5)) (mvT hZ w5) (mvT hZ w6) hy (backOf (W := W) (Q := fun v h L => ∃ H', Q v H' ∧ Hp Z a0 n0 h H' ∧ Old n0 T.heap h ∧ Fr n0 L) (cn T.heap [] P) hZ w4 w3 hf hlo) qa qc (g := mkF m pc Ls (argsL.reverse ++ .ref a :: S)) rfl (by rw [r1]; exact hsz) (Steps.refl _) (argsL := argsL) (rest := S) (lenOf pd hlen) rfl (by show 2 * 0 + _ ≤ _; omega) (hb hby hd) (fun _ _ => ⟨rfl, rfl, by show cells + _ ≤ _; omega, by show slots + _ ≤ _; omega⟩)
  dsimp only [Pt.U, Pt.locs, Pt.cells, Pt.slots] at X' e1 e2 e3 st P' O'
  subst e1 e2 e3
  obtain ⟨n', h1, h2⟩ := q v T' H' hQ ⟨⟨_, _, _, X', N.app N', by omega, by omega⟩, P', O.trans O', hx, hZ, hown, hby, r1, r2, r3, hc, hl⟩
  exact ⟨n', st.trans h1, h2⟩
theorem w_private (C : Ctx p l e R s m args below meth c Z a0 n0 own bytes ml ret T H kc ks) {ix i : Nat} {y : MethodName} {by' : ByteArray} {ml' : Nat} {ret' : Option FieldType} {rm : Room} {Q : Option Value → List Ent → Prop} {ps : List FieldType} {rt : Option FieldType} {kc' ks' : Nat} {St : List Value} {a : Addr} {C0 : String} {fs : List (String × String × String × Value)} (W : Nat) (argsL : List Value)
    (cn : Con l Z a0 n0 y by' ml' ret' rm (.ref a :: argsL).toArray H Q) (hi : H[i]? = some (a, .inr (C0, fs))) (w1 : (Cond.methodLink own ix y).before a0 Z = true) (w2 : (Cond.privateMethod y).before a0 Z = true) (w6 : (Cond.instanceMethod y).before a0 Z = true) {kk : Nat} (wi : (Cond.instantiable y.cls kk).before a0 Z = true) (w3 : (Cond.initialized y.cls).before a0 Z = true) (w4 : (Cond.code y by' ml' ret').before a0 Z = true) (hy : y.cls ≠ "java/lang/invoke/MethodHandle" ∧ y.cls ≠ "java/lang/invoke/VarHandle")
    (pd : parseMethodDescriptor y.desc = some ⟨ps, rt⟩) (hlen : argsL.length = ps.length) (hst : St = argsL.reverse ++ .ref a :: S) (hsz : Ls.size = ml) (hW : (S.map fun v => v.category).sum ≤ W) (hf : rm.frames + 1 ≤ R.frames) (hlo : W + (ml' + 11) + rm.locals ≤ R.locals) (hkc : kc + rm.cells = kc') (hks : ks + rm.slots = ks') (hc : kc' ≤ R.cells) (hl : ks' ≤ R.slots) (hd : decode bytes pc = .ok (.invokevirtual ix, 3)) (hp : pc + 3 = pc')
    (q : ∀ v T' H', Q v H' → Ctx p l e R s m args below meth c Z a0 n0 own bytes ml ret T' H' kc' ks' → Go p e below K (T'.setTop (mkF m pc' Ls (v.toList ++ S)))) : Go p e below K (T.setTop (mkF m pc Ls St)) := by
  obtain ⟨⟨locs, cells, slots, X, N, b1, b2⟩, P, O, hx, hZ, hown, hby, r1, r2, r3, -, -⟩ := C
  subst hp hkc hks hst
  have E : Exa Z T.heap a C0 := (P.at hi).1.1
  obtain ⟨cl, hcl, hst⟩ := E.cell
  obtain ⟨c2, k2, hc2, hk2, -, hfl, -⟩ := Cond.instantiable_spec (mv (args := args) hZ wi)
  have hni : k2.isInterface = false := by
    cases hi : k2.isInterface
    · rfl
    · simp [hi] at hfl
  have hpr : s.PrivateAt y := Cond.privateMethod_at (mvP (args := args) hZ w2)
  obtain ⟨v, vm1, ⟨T', L', k', n'⟩, hW1, X', ⟨Lc, ⟨H', hQ, P', O', N'⟩, e1, e2, e3⟩, st⟩ := X.privateBack hx (y := y) hown (mvT hZ w1) (mvT hZ w6) (selects_self_of_private hc2 hk2 hni hpr (mvT hZ w6) hy) hpr (mvT hZ w4) hy (backOf (W := W) (Q := fun v h L => ∃ H', Q v H' ∧ Hp Z a0 n0 h H' ∧ Old n0 T.heap h ∧ Fr n0 L) (cn T.heap [] P) hZ w4 w3 hf hlo) (g := mkF m pc Ls (argsL.reverse ++ .ref a :: S)) rfl (by rw [r1]; exact hsz) (Steps.refl _) (a := a) hcl hst (argsL := argsL) (rest := S) (lenOf pd hlen) rfl (by show 2 * 0 + _ ≤ _; omega) (hb hby hd) (fun _ _ => ⟨rfl, rfl, by show cells + _ ≤ _; omega, by show slots + _ ≤ _; omega⟩)
  dsimp only [Pt.U, Pt.locs, Pt.cells, Pt.slots] at X' e1 e2 e3 st P' O'
  subst e1 e2 e3
  obtain ⟨n', h1, h2⟩ := q v T' H' hQ ⟨⟨_, _, _, X', N.app N', by omega, by omega⟩, P', O.trans O', hx, hZ, hown, hby, r1, r2, r3, hc, hl⟩
  exact ⟨n', st.trans h1, h2⟩
theorem w_clone (C : Ctx p l e R s m args below meth c Z a0 n0 own bytes ml ret T H kc ks) (i W : Nat) {ix k : Nat} {a : Addr} {ty : FieldType} {xs : List Value} {ad : String} {kc' ks' : Nat} (had : "[" ++ ty.toString = ad) (hi : H[i]? = some (a, .inl (ty, xs))) (hfit : ∀ v ∈ xs, fits ty v = true) (hk : xs.length = k)
    (w1 : (Cond.methodLink own ix ⟨ad, "clone", "()Ljava/lang/Object;"⟩).before a0 Z = true) (w2 : (Cond.sameMethod ad "java/lang/Object" "clone" "()Ljava/lang/Object;").before a0 Z = true) (w3 : (Cond.native ⟨"java/lang/Object", "clone", "()Ljava/lang/Object;"⟩).before a0 Z = true) (w4 : (Cond.instanceMethod ⟨"java/lang/Object", "clone", "()Ljava/lang/Object;"⟩).before a0 Z = true) (w5 : (Cond.selects ad ⟨ad, "clone", "()Ljava/lang/Object;"⟩ ⟨"java/lang/Object", "clone", "()Ljava/lang/Object;"⟩).before a0 Z = true) (w6 : (Cond.castable ad "java/lang/Cloneable").before a0 Z = true)
    (hsz : Ls.size = ml) (hW : (S.map fun v => v.category).sum ≤ W) (hf : 1 ≤ R.frames) (hlo : W + 14 ≤ R.locals) (hkc : kc + 1 = kc') (hks : ks + k = ks') (hc : kc' ≤ R.cells) (hl : ks' ≤ R.slots) (hd : decode bytes pc = .ok (.invokevirtual ix, 3)) (hp : pc + 3 = pc')
    (q : ∀ T' a', Ctx p l e R s m args below meth c Z a0 n0 own bytes ml ret T' (H ++ [(a', .inl (ty, xs))]) kc' ks' → Go p e below K (T'.setTop (mkF m pc' Ls (.ref a' :: S)))) : Go p e below K (T.setTop (mkF m pc Ls (.ref a :: S))) := by
  obtain ⟨⟨locs, cells, slots, X, N, b1, b2⟩, P, O, hx, hZ, hown, hby, r1, r2, r3, -, -⟩ := C
  subst hp hkc hks had
  obtain ⟨cl, A, e1, hE⟩ := (P.at hi).1
  have FC : FitC Z cl := fitC_of A fun j hj v hv => hfit v (by rw [e1] at hv; exact List.mem_of_getElem? (by simpa using hv))
  obtain ⟨T', h', X', e', E, A', E', st⟩ := cloneA X hx hZ hown w1 w2 w3 w4 w5 w6 rfl A hE FC (g := mkF m pc Ls (.ref a :: S)) rfl (by rw [r1]; exact hsz) rfl (hb hby hd) hf (W := W) (cap := k) (by show 2 * 0 + _ ≤ _; omega) hlo (by rw [e1]; simp; omega) (by omega) (by omega)
  subst e'
  have hA : Is Z a0 T'.heap (T.heap.size, .inl (ty, xs)) := ⟨_, A', e1, E'⟩
  obtain ⟨n', h1, h2⟩ := q T' _ ⟨⟨_, _, _, X', N, by omega, by omega⟩, P.push E hA, O.trans (Old.ext E), hx, hZ, hown, hby, r1, r2, r3, hc, hl⟩
  exact ⟨n', st n' h1, h2⟩
theorem w_checkcastA (C : Ctx p l e R s m args below meth c Z a0 n0 own bytes ml ret T H kc ks) (i : Nat) {ix : Nat} {a : Addr} {ty : FieldType} {xs : List Value} {ad : String} (had : "[" ++ ty.toString = ad) (hi : H[i]? = some (a, .inl (ty, xs))) (w1 : (Cond.classLink own ix ad).before a0 Z = true) (hd : decode bytes pc = .ok (.checkcast ix, 3)) (hp : pc + 3 = pc')
    (q : ∀ T', Ctx p l e R s m args below meth c Z a0 n0 own bytes ml ret T' H kc ks → Go p e below K (T'.setTop (mkF m pc' Ls (.ref a :: S)))) : Go p e below K (T.setTop (mkF m pc Ls (.ref a :: S))) := by
  obtain ⟨⟨locs, cells, slots, X, N, b1, b2⟩, P, O, hx, hZ, hown, hby, r⟩ := C
  subst hp had
  obtain ⟨cl, A, e1, hE⟩ := (P.at hi).1
  obtain ⟨T', X', e', st⟩ := castY X hx hZ hown w1 rfl (Ins.self hE) (g := mkF m pc Ls (.ref a :: S)) rfl rfl (hb hby hd)
  obtain ⟨n', h1, h2⟩ := q T' ⟨⟨_, _, _, X', N, b1, b2⟩, by rw [e']; exact P, by rw [e']; exact O, hx, hZ, hown, hby, r⟩
  exact ⟨n', st n' h1, h2⟩
theorem Sta.old {h h' : Heap} {K n d : String} {v : Value} (F : Sta Z h K n d v) (hn : h.size ≤ n0) (O : Old n0 h h') : Sta Z h' K n d v := by
  obtain ⟨cf, i, k, f, st, cell, h1, h2, h3, h4, h5, r⟩ := F
  exact ⟨cf, i, k, f, st, cell, h1, h2, h3, h4, O _ _ (Nat.lt_of_lt_of_le (Array.getElem?_eq_some_iff.mp h5).1 hn) h5, r⟩
theorem w_getstatic (C : Ctx p l e R s m args below meth c Z a0 n0 own bytes ml ret T H kc ks) {ix : Nat} {O0 nm d : String} {v : Value} (F : Sta Z s.heap O0 nm d v) (hn : s.heap.size ≤ n0) (w : (Cond.fieldLink own ix O0 nm d).before a0 Z = true) (hd : decode bytes pc = .ok (.getstatic ix, 3)) (hp : pc + 3 = pc')
    (q : ∀ T', Ctx p l e R s m args below meth c Z a0 n0 own bytes ml ret T' H kc ks → Go p e below K (T'.setTop (mkF m pc' Ls (v :: S)))) : Go p e below K (T.setTop (mkF m pc Ls S)) := by
  obtain ⟨⟨locs, cells, slots, X, N, b1, b2⟩, P, O, hx, hZ, hown, hby, r⟩ := C
  subst hp
  obtain ⟨T', X', e', st⟩ := getS X hx hZ hown (host := "") w Via.refl rfl (Sta.old F hn O) (g := mkF m pc Ls S) rfl (hb hby hd)
  obtain ⟨n', h1, h2⟩ := q T' ⟨⟨_, _, _, X', N, b1, b2⟩, by rw [e']; exact P, by rw [e']; exact O, hx, hZ, hown, hby, r⟩
  exact ⟨n', st n' h1, h2⟩
theorem Ctx.ne {i j : Nat} {x y : Ent} (C : Ctx p l e R s m args below meth c Z a0 n0 own bytes ml ret T H kc ks) (hi : H[i]? = some x) (hj : H[j]? = some y) (ne : i ≠ j) : x.1 ≠ y.1 := C.2.1.ne hi hj ne
theorem refne {a b : Addr} (h : a ≠ b) : ¬ (Value.ref a = Value.ref b) := fun z => h (by cases z; rfl)
theorem Ctx.mono {kc' ks' : Nat} (C : Ctx p l e R s m args below meth c Z a0 n0 own bytes ml ret T H kc ks) (h1 : kc ≤ kc') (h2 : ks ≤ ks') (h3 : kc' ≤ R.cells) (h4 : ks' ≤ R.slots) : Ctx p l e R s m args below meth c Z a0 n0 own bytes ml ret T H kc' ks' := by
  obtain ⟨⟨locs, cells, slots, X, N, b1, b2⟩, P, O, hx, hZ, hown, hby, r1, r2, r3, -, -⟩ := C
  exact ⟨⟨locs, cells, slots, X, N, by omega, by omega⟩, P, O, hx, hZ, hown, hby, r1, r2, r3, h3, h4⟩
end Calls
end Jvm.OwnW

namespace Jvm.OwnW
open Jvm.FP Jvm.FP.Core Jvm.Free Jvm.Free.Fl
/-! ## Doubles by their worth in units of 2^-1074 -/
def dv (x : UInt64) : Int := zval b64 (val64 x)
def U : Int := (one64 : Int)
theorem U_pos : 0 < U := by unfold U; have := one64_pos; omega
theorem pw_pos (k : Nat) : (0 : Int) < 2 ^ k := Int.pow_pos (by decide)
theorem rr_le {s : Bool} {A B : Nat} {e e0 : Int} {W : Datum} (hB : 0 < B) (hV : Jvm.FP.Core.fits b64 W) (hn : W ≠ .nan) (h0 : e0 ≤ b64.qmin) (h0e : e0 ≤ e)
    (h : signed s (inUnits A e e0) ≤ zval b64 W * ((2 ^ (b64.qmin - e0).toNat : Nat) : Int) * (B : Int)) : zval b64 (roundRatio b64 s A B e) ≤ zval b64 W := by
  have hle := zmag_roundRatio_le good_b64 (s := s) (A := A) hB hV hn h0 h0e
  have hge := zmag_roundRatio_ge good_b64 (s := s) (A := A) hB hV h0 h0e
  have hP : 0 < 2 ^ (b64.qmin - e0).toNat := Nat.two_pow_pos _
  unfold zval at *
  rw [sgn_roundRatio]
  generalize 2 ^ (b64.qmin - e0).toNat = P at *
  generalize zmag b64 W = v at *
  generalize zmag b64 (roundRatio b64 s A B e) = r at *
  generalize inUnits A e e0 = a at *
  have hPB : 0 < P * B := Nat.mul_pos hP hB
  rw [Int.mul_assoc, ← Int.natCast_mul] at h
  rw [Nat.mul_assoc] at hle hge
  generalize P * B = M at *
  generalize sgn W = t at *
  cases s <;> cases t <;> simp only [signed, Bool.false_eq_true, if_false, if_true] at h ⊢
  · have h' : a ≤ v * M := by exact_mod_cast h
    have := hle h'; omega
  · have h1 : (0 : Int) ≤ (v : Int) * (M : Int) := Int.mul_nonneg (by omega) (by omega)
    rw [Int.neg_mul] at h
    have h2 : a ≤ v * M := by have : (a : Int) ≤ (v : Int) * (M : Int) := by omega
                              exact_mod_cast this
    have h3 := hle h2
    have h4 : (v : Int) * (M : Int) = 0 := by omega
    rcases Int.mul_eq_zero.mp h4 with q | q <;> omega
  · omega
  · rw [Int.neg_mul] at h
    have h' : v * M ≤ a := by have : (v : Int) * (M : Int) ≤ (a : Int) := by omega
                              exact_mod_cast this
    have := hge h'; omega
theorem rr_ge {s : Bool} {A B : Nat} {e e0 : Int} {W : Datum} (hB : 0 < B) (hV : Jvm.FP.Core.fits b64 W) (hn : W ≠ .nan) (h0 : e0 ≤ b64.qmin) (h0e : e0 ≤ e)
    (h : zval b64 W * ((2 ^ (b64.qmin - e0).toNat : Nat) : Int) * (B : Int) ≤ signed s (inUnits A e e0)) : zval b64 W ≤ zval b64 (roundRatio b64 s A B e) := by
  have hle := zmag_roundRatio_le good_b64 (s := s) (A := A) hB hV hn h0 h0e
  have hge := zmag_roundRatio_ge good_b64 (s := s) (A := A) hB hV h0 h0e
  have hP : 0 < 2 ^ (b64.qmin - e0).toNat := Nat.two_pow_pos _
  unfold zval at *
  rw [sgn_roundRatio]
  generalize 2 ^ (b64.qmin - e0).toNat = P at *
  generalize zmag b64 W = v at *
  generalize zmag b64 (roundRatio b64 s A B e) = r at *
  generalize inUnits A e e0 = a at *
  have hPB : 0 < P * B := Nat.mul_pos hP hB
  rw [Int.mul_assoc, ← Int.natCast_mul] at h
  rw [Nat.mul_assoc] at hle hge
  generalize P * B = M at *
  generalize sgn W = t at *
  cases s <;> cases t <;> simp only [signed, Bool.false_eq_true, if_false, if_true] at h ⊢
  · have h' : v * M ≤ a := by exact_mod_cast h
    have := hge h'; omega
  · omega
  · have h1 : (0 : Int) ≤ (v : Int) * (M : Int) := Int.mul_nonneg (by omega) (by omega)
    have h2 : a ≤ v * M := by have : (a : Int) ≤ (v : Int) * (M : Int) := by omega
                              exact_mod_cast this
    have h3 := hle h2
    have h4 : (v : Int) * (M : Int) = 0 := by omega
    rcases Int.mul_eq_zero.mp h4 with q | q <;> omega
  · rw [Int.neg_mul] at h
    have h' : a ≤ v * M := by have : (a : Int) ≤ (v : Int) * (M : Int) := by omega
                              exact_mod_cast this
    have := hle h'; omega
theorem dadd_le {x y w : UInt64} (hx : DFin x) (hy : DFin y) (hw : val64 w ≠ .nan) (h : dv x + dv y ≤ dv w) : dv (FP.dadd x y) ≤ dv w := by
  unfold dv at *; rw [show val64 (FP.dadd x y) = _ from val64_dadd x y]
  exact sum_le good_b64 hx hy (val64_fits x) (val64_fits y) (val64_fits w) hw h
theorem dadd_ge {x y w : UInt64} (hx : DFin x) (hy : DFin y) (hw : val64 w ≠ .nan) (h : dv w ≤ dv x + dv y) : dv w ≤ dv (FP.dadd x y) := by
  unfold dv at *; rw [show val64 (FP.dadd x y) = _ from val64_dadd x y]
  exact sum_ge good_b64 hx hy (val64_fits x) (val64_fits y) (val64_fits w) hw h
theorem neg_fin {d : Datum} (h : ∃ s c q, d = .fin s c q) : ∃ s c q, negate d = .fin s c q := by obtain ⟨s, c, q, rfl⟩ := h; exact ⟨_, _, _, rfl⟩
theorem dsub_le {x y w : UInt64} (hx : DFin x) (hy : DFin y) (hw : val64 w ≠ .nan) (h : dv x - dv y ≤ dv w) : dv (FP.dsub x y) ≤ dv w := by
  unfold dv at *; rw [show val64 (FP.dsub x y) = _ from val64_dsub x y]
  refine sum_le good_b64 hx (neg_fin hy) (val64_fits x) (negate_fits (val64_fits y)) (val64_fits w) hw ?_
  rw [zval_negate]; omega
theorem dsub_ge {x y w : UInt64} (hx : DFin x) (hy : DFin y) (hw : val64 w ≠ .nan) (h : dv w ≤ dv x - dv y) : dv w ≤ dv (FP.dsub x y) := by
  unfold dv at *; rw [show val64 (FP.dsub x y) = _ from val64_dsub x y]
  refine sum_ge good_b64 hx (neg_fin hy) (val64_fits x) (negate_fits (val64_fits y)) (val64_fits w) hw ?_
  rw [zval_negate]; omega
theorem signed_xor (s t : Bool) (m n : Nat) : signed (s != t) (m * n) = signed s m * signed t n := by
  cases s <;> cases t <;> simp [signed, Int.natCast_mul, Int.neg_mul, Int.mul_neg]
theorem dmul_le {x y w : UInt64} (hx : DFin x) (hy : DFin y) (hw : val64 w ≠ .nan) (h : dv x * dv y ≤ dv w * U) : dv (FP.dmul x y) ≤ dv w := by
  have fx := val64_fits x; have fy := val64_fits y
  unfold dv at *; rw [show val64 (FP.dmul x y) = _ from val64_dmul x y]
  obtain ⟨s, c, q, ex⟩ := hx
  obtain ⟨t, d, r, ey⟩ := hy
  rw [ex] at fx h ⊢; rw [ey] at fy h ⊢
  obtain ⟨p1, p2, p3⟩ := product_units fx fy
  rw [p1]
  have e0 : (b64.qmin - 2 * b64.qmin).toNat = (-b64.qmin).toNat := by rw [show b64.qmin - 2 * b64.qmin = -b64.qmin by omega]
  refine rr_le (by decide) (val64_fits w) hw (e0 := 2 * b64.qmin) (by have := qmin_neg good_b64; omega) p2 ?_
  rw [p3, e0, pow_qmin64, signed_xor]
  show _ ≤ _ * U * 1
  rw [Int.mul_one]; exact h
theorem dmul_ge {x y w : UInt64} (hx : DFin x) (hy : DFin y) (hw : val64 w ≠ .nan) (h : dv w * U ≤ dv x * dv y) : dv w ≤ dv (FP.dmul x y) := by
  have fx := val64_fits x; have fy := val64_fits y
  unfold dv at *; rw [show val64 (FP.dmul x y) = _ from val64_dmul x y]
  obtain ⟨s, c, q, ex⟩ := hx
  obtain ⟨t, d, r, ey⟩ := hy
  rw [ex] at fx h ⊢; rw [ey] at fy h ⊢
  obtain ⟨p1, p2, p3⟩ := product_units fx fy
  rw [p1]
  have e0 : (b64.qmin - 2 * b64.qmin).toNat = (-b64.qmin).toNat := by rw [show b64.qmin - 2 * b64.qmin = -b64.qmin by omega]
  refine rr_ge (by decide) (val64_fits w) hw (e0 := 2 * b64.qmin) (by have := qmin_neg good_b64; omega) p2 ?_
  rw [p3, e0, pow_qmin64, signed_xor]
  show _ * U * 1 ≤ _
  rw [Int.mul_one]; exact h
theorem div_form {x y : UInt64} (hx : DFin x) (hy : DFin y) (hp : 0 < dv y) : ∃ s c d q r, val64 x = .fin s c q ∧ val64 y = .fin false d r ∧ 0 < d ∧ val64 (FP.ddiv x y) = roundRatio b64 s c d (q - r) ∧ 2 * b64.qmin - r ≤ b64.qmin ∧ 2 * b64.qmin - r ≤ q - r ∧
    signed s (inUnits c (q - r) (2 * b64.qmin - r)) = dv x * U ∧ ((2 ^ (b64.qmin - (2 * b64.qmin - r)).toNat : Nat) : Int) * (d : Int) = dv y := by
  have fx := val64_fits x; have fy := val64_fits y
  obtain ⟨s, c, q, ex⟩ := hx
  obtain ⟨t, d, r, ey⟩ := hy
  unfold dv at *
  have hv := val64_ddiv x y
  rw [ex] at fx hv ⊢; rw [ey] at fy hp hv ⊢
  have hq := qmin_neg good_b64
  have hx1 := fx.2.1
  have hy1 := fy.2.1
  have ht : t = false ∧ 0 < d := by
    have := signed_pos (s := t) (m := zmag b64 (.fin t d r)) hp
    cases t
    · refine ⟨rfl, ?_⟩
      have h2 := this.2
      rcases Nat.eq_zero_or_pos d with z | z
      · subst z; simp [zmag, inUnits] at h2
      · exact z
    · have h1 := this.1
      simp only [signed, if_true] at h1; omega
  obtain ⟨rfl, hd⟩ := ht
  refine ⟨s, c, d, q, r, rfl, rfl, hd, ?_, by omega, by omega, ?_, ?_⟩
  · rw [show val64 (FP.ddiv x y) = _ from hv]; simp only [quotient, if_neg (show ¬ d = 0 by omega)]
    cases s <;> rfl
  · have e1 : inUnits c (q - r) (2 * b64.qmin - r) = zmag b64 (.fin s c q) * 2 ^ (-b64.qmin).toNat := by
      show c * _ = c * _ * _
      rw [Nat.mul_assoc, ← Nat.pow_add]; congr 2; omega
    rw [e1, pow_qmin64, signed_mul]; rfl
  · have e2 : 2 ^ (b64.qmin - (2 * b64.qmin - r)).toNat * d = zmag b64 (.fin false d r) := by
      show _ = d * _
      rw [Nat.mul_comm]; congr 2; omega
    rw [← Int.natCast_mul, e2]; rfl
theorem ddiv_le {x y w : UInt64} (hx : DFin x) (hy : DFin y) (hp : 0 < dv y) (hw : val64 w ≠ .nan) (h : dv x * U ≤ dv w * dv y) : dv (FP.ddiv x y) ≤ dv w := by
  obtain ⟨s, c, d, q, r, ex, ey, hd, e, h1, h2, h3, h4⟩ := div_form hx hy hp
  unfold dv; rw [e]
  refine rr_le hd (val64_fits w) hw h1 h2 ?_
  rw [h3, Int.mul_assoc, h4]; exact h
theorem ddiv_ge {x y w : UInt64} (hx : DFin x) (hy : DFin y) (hp : 0 < dv y) (hw : val64 w ≠ .nan) (h : dv w * dv y ≤ dv x * U) : dv w ≤ dv (FP.ddiv x y) := by
  obtain ⟨s, c, d, q, r, ex, ey, hd, e, h1, h2, h3, h4⟩ := div_form hx hy hp
  unfold dv; rw [e]
  refine rr_ge hd (val64_fits w) hw h1 h2 ?_
  rw [h3, Int.mul_assoc, h4]; exact h
/-- between two finite ones: finite -/
theorem fin_of {x w v : UInt64} (hx : val64 x ≠ .nan) (hw : DFin w) (hv : DFin v) (h1 : dv x ≤ dv w) (h2 : dv v ≤ dv x) : DFin x := by
  have a := hw.zval_lt; have b := hv.zval_lt
  unfold dv zval at *
  cases e : val64 x with
  | nan => exact absurd e hx
  | fin s c q => exact ⟨s, c, q, e⟩
  | inf s =>
    exfalso
    rw [e] at h1 h2
    generalize zmag b64 (val64 w) = A at *
    generalize zmag b64 (val64 v) = B at *
    simp only [sgn, zmag] at h1 h2
    generalize b64.tails * 2 ^ (b64.exps - 2) = M at *
    generalize sgn (val64 w) = t1 at *
    generalize sgn (val64 v) = t2 at *
    cases s <;> cases t1 <;> cases t2 <;> simp only [signed, Bool.false_eq_true, if_false, if_true] at h1 h2 <;> omega
theorem dcmpZ {x y : UInt64} (hx : val64 x ≠ .nan) (hy : val64 y ≠ .nan) : FP.dcmp x y = some (compare (dv x) (dv y)) := dcmp_zval hx hy
theorem dv_int {i : Int} {x : UInt64} (h : DInt i x) : dv x = i * U := by
  have := whole_zval good_b64 (val64_fits x) h
  rw [pow_qmin64] at this; exact this
theorem fin_int {i : Int} {x : UInt64} (h : DInt i x) : DFin x := by
  unfold DInt at h
  cases e : val64 x with
  | nan => rw [e] at h; exact h.elim
  | inf s => rw [e] at h; exact h.elim
  | fin s c q => exact ⟨s, c, q, e⟩
/-- n / 2^k is a double -/
theorem rep (n : Int) (k : Nat) (hn : n.natAbs ≤ 2 ^ 53) (hk : k ≤ 1000) : ∃ w, DFin w ∧ dv w * 2 ^ k = n * U := by
  have hw : Whole n (val64 (FP.Core.l2d (Int64.ofInt n))) := by
    have e : (Int64.ofInt n).toInt = n := Int64.toInt_ofInt_of_le (by omega) (by omega)
    have := l2d_int (a := Int64.ofInt n) (by rw [e]; exact hn)
    rw [e] at this; exact this
  by_cases h0 : n = 0
  · subst h0
    exact ⟨0, ⟨false, 0, b64.qmin, val64_zero⟩, by unfold dv; rw [zval64_zero, Int.zero_mul, Int.zero_mul]⟩
  have hf := val64_fits (FP.Core.l2d (Int64.ofInt n))
  have hz := whole_zval good_b64 hf hw
  cases e : val64 (FP.Core.l2d (Int64.ofInt n)) with
  | nan => rw [e] at hw; exact hw.elim
  | inf s => rw [e] at hw; exact hw.elim
  | fin s c q =>
    rw [e] at hw hf hz
    have hq : -53 < q := by
      rcases Int.lt_or_le (-53) q with z | z
      · exact z
      · exfalso
        have hc := hf.1
        have e1 : q.toNat = 0 := by omega
        have hna := congrArg Int.natAbs (show signed s (c * 2 ^ q.toNat) = n * ((2 ^ (-q).toNat : Nat) : Int) from hw)
        rw [natAbs_signed, e1, Nat.pow_zero, Nat.mul_one, Int.natAbs_mul, Int.natAbs_natCast] at hna
        have h2 : 2 ^ 53 ≤ 2 ^ (-q).toNat := Nat.pow_le_pow_right (by decide) (by omega)
        have h3 : 1 * 2 ^ (-q).toNat ≤ n.natAbs * 2 ^ (-q).toNat := Nat.mul_le_mul_right _ (by omega)
        have h4 : (2 : Nat) ^ b64.p = 2 ^ 53 := rfl
        omega
    have hqm : b64.qmin = -1074 := qmin_b64
    have hfit : Jvm.FP.Core.fits b64 (.fin s c (q - k)) := ⟨hf.1, by omega, by have := hf.2.2.1; omega, Or.inr (hf.2.2.2.resolve_left (by omega))⟩
    refine ⟨of64 (.fin s c (q - k)), ⟨s, c, q - k, val64_of64 hfit⟩, ?_⟩
    unfold dv; rw [val64_of64 hfit]
    rw [pow_qmin64] at hz
    have e3 : zval b64 (.fin s c q) = zval b64 (.fin s c (q - k)) * ((2 ^ k : Nat) : Int) := by
      show signed s (inUnits c q b64.qmin) = signed s (inUnits c (q - k) b64.qmin) * _
      rw [← signed_mul]; congr 1
      unfold inUnits
      rw [Nat.mul_assoc, ← Nat.pow_add]; congr 2; omega
    rw [e3] at hz
    rw [Int.natCast_pow] at hz; exact hz
theorem mul_cancel {a b : Int} {k : Int} (hk : 0 < k) (h : a * k = b * k) : a = b := Int.eq_of_mul_eq_mul_right (by omega) h
theorem mul_lt {a b : Int} {k : Int} (hk : 0 < k) : a * k < b * k ↔ a < b := ⟨fun h => Int.lt_of_mul_lt_mul_right h (by omega), fun h => Int.mul_lt_mul_of_pos_right h hk⟩
theorem mul_le {a b : Int} {k : Int} (hk : 0 < k) : a * k ≤ b * k ↔ a ≤ b := ⟨fun h => Int.le_of_mul_le_mul_right h hk, fun h => Int.mul_le_mul_of_nonneg_right h (by omega)⟩
/-- d is n / 2^k, |n| at most A -/
def DQ (d : UInt64) (n : Int) (k : Nat) (A : Nat) : Prop := DFin d ∧ dv d * 2 ^ k = n * U ∧ n.natAbs ≤ A
theorem DQ.nn {d : UInt64} {n : Int} {k A : Nat} (h : DQ d n k A) : NoNaN64 d := val64_no.mpr h.1.ne_nan
theorem DQ.ne {d : UInt64} {n : Int} {k A : Nat} (h : DQ d n k A) : val64 d ≠ .nan := h.1.ne_nan
theorem DQ.mono {d : UInt64} {n : Int} {k A B : Nat} (h : DQ d n k A) (q : n.natAbs ≤ B) : DQ d n k B := ⟨h.1, h.2.1, q⟩
theorem DQ.eqv {d : UInt64} {n m : Int} {k A B : Nat} (h : DQ d n k A) (e : n = m) (q : m.natAbs ≤ B) : DQ d m k B := by subst e; exact ⟨h.1, h.2.1, q⟩
theorem DQ.up {d : UInt64} {n : Int} {k A : Nat} (h : DQ d n k A) (j : Nat) {B : Nat} (hB : A * 2 ^ j ≤ B) : DQ d (n * 2 ^ j) (k + j) B := by
  refine ⟨h.1, by rw [Int.pow_add, ← Int.mul_assoc, h.2.1]; generalize U = u; ac_rfl, ?_⟩
  rw [Int.natAbs_mul, Int.natAbs_pow]
  exact Nat.le_trans (Nat.mul_le_mul_right _ h.2.2) hB
theorem dq_int {d : UInt64} {n : Int} {A : Nat} (h : DInt n d) (q : n.natAbs ≤ A) : DQ d n 0 A := ⟨fin_int h, by rw [dv_int h, Int.pow_zero, Int.mul_one], q⟩
theorem dq_i2d {x : Int32} {i : Int} {A : Nat} (hi : x.toInt = i) (q : i.natAbs ≤ A) : DQ (FP.i2d x) i 0 A := by subst hi; exact dq_int (i2d_int x) q
theorem dq_l2d {x : Int64} {i : Int} {A : Nat} (hi : x.toInt = i) (q : i.natAbs ≤ A) (hA : A ≤ 9007199254740992) : DQ (FP.l2d x) i 0 A := by subst hi; exact dq_int (l2d_int (by omega)) q
/-- where the exact worth of a result is a small number over 2^k, that is the result -/
theorem ex_of {z : UInt64} {E D : Int} {n : Int} {k A : Nat} (hz : val64 z ≠ .nan) (hD : 0 < D) (hle : ∀ w, val64 w ≠ .nan → E ≤ dv w * D → dv z ≤ dv w) (hge : ∀ w, val64 w ≠ .nan → dv w * D ≤ E → dv w ≤ dv z) (h : E * 2 ^ k = n * U * D) (hA : n.natAbs ≤ A) (hA' : A ≤ 9007199254740992) (hk : k ≤ 1000) : DQ z n k A := by
  obtain ⟨w, hw, e⟩ := rep n k (by omega) hk
  have e1 : E = dv w * D := mul_cancel (pw_pos k) (by rw [h, ← e]; generalize dv w = t; ac_rfl)
  have h1 := hle w hw.ne_nan (by omega)
  have h2 := hge w hw.ne_nan (by omega)
  have h3 : dv z = dv w := by omega
  exact ⟨fin_of hz hw hw h1 h2, by rw [h3, e], hA⟩
theorem DQ.add {x y : UInt64} {n m : Int} {k A B C : Nat} (hx : DQ x n k A) (hy : DQ y m k B) (hC : A + B ≤ C) (hC' : C ≤ 9007199254740992) (hk : k ≤ 1000) : DQ (FP.dadd x y) (n + m) k C := by
  have b1 := hx.2.2; have b2 := hy.2.2
  refine ex_of (E := dv x + dv y) (D := 1) ((notNaN_iff _).mp (dadd_out hx.1.notNaN hy.1)) (by decide) (fun w hw h => dadd_le hx.1 hy.1 hw (by omega)) (fun w hw h => dadd_ge hx.1 hy.1 hw (by omega)) ?_ (by omega) hC' hk
  rw [Int.add_mul, hx.2.1, hy.2.1, Int.mul_one, Int.add_mul]
theorem DQ.sub {x y : UInt64} {n m : Int} {k A B C : Nat} (hx : DQ x n k A) (hy : DQ y m k B) (hC : A + B ≤ C) (hC' : C ≤ 9007199254740992) (hk : k ≤ 1000) : DQ (FP.dsub x y) (n - m) k C := by
  have b1 := hx.2.2; have b2 := hy.2.2
  refine ex_of (E := dv x - dv y) (D := 1) ((notNaN_iff _).mp (dsub_out hx.1.notNaN hy.1)) (by decide) (fun w hw h => dsub_le hx.1 hy.1 hw (by omega)) (fun w hw h => dsub_ge hx.1 hy.1 hw (by omega)) ?_ (by omega) hC' hk
  rw [Int.sub_mul, hx.2.1, hy.2.1, Int.mul_one, Int.sub_mul]
theorem DQ.mul {x y : UInt64} {n m : Int} {k j A B C : Nat} (hx : DQ x n k A) (hy : DQ y m j B) (hC : A * B ≤ C) (hC' : C ≤ 9007199254740992) (hk : k + j ≤ 1000) : DQ (FP.dmul x y) (n * m) (k + j) C := by
  have b1 := hx.2.2; have b2 := hy.2.2
  refine ex_of (E := dv x * dv y) (D := U) ((notNaN_iff _).mp (dmul_out hx.1 hy.1)) U_pos (fun w hw h => dmul_le hx.1 hy.1 hw h) (fun w hw h => dmul_ge hx.1 hy.1 hw h) ?_ ?_ hC' hk
  · rw [Int.pow_add, show dv x * dv y * (2 ^ k * 2 ^ j) = (dv x * 2 ^ k) * (dv y * 2 ^ j) from by generalize dv x = a; generalize dv y = b; ac_rfl, hx.2.1, hy.2.1]; generalize U = u; ac_rfl
  · rw [Int.natAbs_mul]; exact Nat.le_trans (Nat.mul_le_mul b1 b2) hC
theorem DQ.pos {y : UInt64} {m : Int} {j B : Nat} (hy : DQ y m j B) (hm : 0 < m) : 0 < dv y := by
  have h1 : 0 < m * U := Int.mul_pos hm U_pos
  rw [← hy.2.1, show (0 : Int) = 0 * 2 ^ j by simp] at h1
  exact (mul_lt (pw_pos j)).mp h1
theorem DQ.nz {y : UInt64} {m : Int} {j B : Nat} (hy : DQ y m j B) (hm : 0 < m) : ¬ DZero y := fun z => by have := z.zval; have h := hy.pos hm; unfold dv at h; omega
theorem DQ.div {x y : UInt64} {n m r : Int} {k j l A B C : Nat} (hx : DQ x n k A) (hy : DQ y m j B) (hm : 0 < m) (h : n * 2 ^ j * 2 ^ l = r * m * 2 ^ k) (hC : r.natAbs ≤ C) (hC' : C ≤ 9007199254740992) (hl : l ≤ 1000) : DQ (FP.ddiv x y) r l C := by
  have hp := hy.pos hm
  refine ex_of (E := dv x * U) (D := dv y) ((notNaN_iff _).mp (ddiv_out hx.1.notNaN hy.1 (hy.nz hm))) hp (fun w hw h => ddiv_le hx.1 hy.1 hp hw h) (fun w hw h => ddiv_ge hx.1 hy.1 hp hw h) ?_ hC hC' hl
  refine mul_cancel (k := 2 ^ k * 2 ^ j) (Int.mul_pos (pw_pos k) (pw_pos j)) ?_
  have e1 : dv x * U * 2 ^ l * (2 ^ k * 2 ^ j) = (dv x * 2 ^ k) * U * (2 ^ j * 2 ^ l) := by generalize U = u; generalize dv _ = t; ac_rfl
  have e2 : r * U * dv y * (2 ^ k * 2 ^ j) = (dv y * 2 ^ j) * r * 2 ^ k * U := by generalize U = u; generalize dv _ = t; ac_rfl
  rw [e1, e2, hx.2.1, hy.2.1]
  have e3 : n * U * U * (2 ^ j * 2 ^ l) = (n * 2 ^ j * 2 ^ l) * U * U := by generalize U = u; ac_rfl
  rw [e3, h]; generalize U = u; ac_rfl
/-! ## Bounds by numbers over 2^l -/
theorem lo_of {z : UInt64} {E D r : Int} {l : Nat} (hD : 0 < D) (hge : ∀ w, val64 w ≠ .nan → dv w * D ≤ E → dv w ≤ dv z) (hr : r.natAbs ≤ 9007199254740992) (hl : l ≤ 1000) (h : r * U * D ≤ E * 2 ^ l) : r * U ≤ dv z * 2 ^ l := by
  obtain ⟨w, hw, e⟩ := rep r l (by omega) hl
  rw [← e]
  refine (mul_le (pw_pos l)).mpr (hge w hw.ne_nan ((mul_le (pw_pos l)).mp ?_))
  have e1 : dv w * D * 2 ^ l = dv w * 2 ^ l * D := by generalize U = u; generalize dv _ = t; ac_rfl
  rw [e1, e]; exact h
theorem hi_of {z : UInt64} {E D r : Int} {l : Nat} (hD : 0 < D) (hle : ∀ w, val64 w ≠ .nan → E ≤ dv w * D → dv z ≤ dv w) (hr : r.natAbs ≤ 9007199254740992) (hl : l ≤ 1000) (h : E * 2 ^ l ≤ r * U * D) : dv z * 2 ^ l ≤ r * U := by
  obtain ⟨w, hw, e⟩ := rep r l (by omega) hl
  rw [← e]
  refine (mul_le (pw_pos l)).mpr (hle w hw.ne_nan ((mul_le (pw_pos l)).mp ?_))
  have e1 : dv w * D * 2 ^ l = dv w * 2 ^ l * D := by generalize U = u; generalize dv _ = t; ac_rfl
  rw [e1, e]; exact h
theorem add_lo {x y : UInt64} {r : Int} {l : Nat} (hx : DFin x) (hy : DFin y) (hr : r.natAbs ≤ 9007199254740992) (hl : l ≤ 1000) (h : r * U ≤ (dv x + dv y) * 2 ^ l) : r * U ≤ dv (FP.dadd x y) * 2 ^ l :=
  lo_of (E := dv x + dv y) (D := 1) (by decide) (fun w hw q => dadd_ge hx hy hw (by omega)) hr hl (by rw [Int.mul_one]; exact h)
theorem add_hi {x y : UInt64} {r : Int} {l : Nat} (hx : DFin x) (hy : DFin y) (hr : r.natAbs ≤ 9007199254740992) (hl : l ≤ 1000) (h : (dv x + dv y) * 2 ^ l ≤ r * U) : dv (FP.dadd x y) * 2 ^ l ≤ r * U :=
  hi_of (E := dv x + dv y) (D := 1) (by decide) (fun w hw q => dadd_le hx hy hw (by omega)) hr hl (by rw [Int.mul_one]; exact h)
theorem mul_lo {x y : UInt64} {r : Int} {l : Nat} (hx : DFin x) (hy : DFin y) (hr : r.natAbs ≤ 9007199254740992) (hl : l ≤ 1000) (h : r * U * U ≤ dv x * dv y * 2 ^ l) : r * U ≤ dv (FP.dmul x y) * 2 ^ l :=
  lo_of (E := dv x * dv y) (D := U) U_pos (fun w hw q => dmul_ge hx hy hw q) hr hl h
theorem mul_hi {x y : UInt64} {r : Int} {l : Nat} (hx : DFin x) (hy : DFin y) (hr : r.natAbs ≤ 9007199254740992) (hl : l ≤ 1000) (h : dv x * dv y * 2 ^ l ≤ r * U * U) : dv (FP.dmul x y) * 2 ^ l ≤ r * U :=
  hi_of (E := dv x * dv y) (D := U) U_pos (fun w hw q => dmul_le hx hy hw q) hr hl h
theorem div_lo0 {x y : UInt64} {r : Int} {l : Nat} (hx : DFin x) (hy : DFin y) (hp : 0 < dv y) (hr : r.natAbs ≤ 9007199254740992) (hl : l ≤ 1000) (h : r * U * dv y ≤ dv x * U * 2 ^ l) : r * U ≤ dv (FP.ddiv x y) * 2 ^ l :=
  lo_of (E := dv x * U) (D := dv y) hp (fun w hw q => ddiv_ge hx hy hp hw q) hr hl h
theorem div_hi0 {x y : UInt64} {r : Int} {l : Nat} (hx : DFin x) (hy : DFin y) (hp : 0 < dv y) (hr : r.natAbs ≤ 9007199254740992) (hl : l ≤ 1000) (h : dv x * U * 2 ^ l ≤ r * U * dv y) : dv (FP.ddiv x y) * 2 ^ l ≤ r * U :=
  hi_of (E := dv x * U) (D := dv y) hp (fun w hw q => ddiv_le hx hy hp hw q) hr hl h
theorem div_lo {x y : UInt64} {n m r : Int} {k j l A B : Nat} (hx : DQ x n k A) (hy : DQ y m j B) (hm : 0 < m) (hr : r.natAbs ≤ 9007199254740992) (hl : l ≤ 1000) (h : r * m * 2 ^ k ≤ n * 2 ^ j * 2 ^ l) : r * U ≤ dv (FP.ddiv x y) * 2 ^ l := by
  refine div_lo0 hx.1 hy.1 (hy.pos hm) hr hl ((mul_le (Int.mul_pos (pw_pos k) (pw_pos j))).mp ?_)
  have e1 : r * U * dv y * (2 ^ k * 2 ^ j) = (dv y * 2 ^ j) * r * 2 ^ k * U := by generalize U = u; generalize dv _ = t; ac_rfl
  have e2 : dv x * U * 2 ^ l * (2 ^ k * 2 ^ j) = (dv x * 2 ^ k) * 2 ^ j * 2 ^ l * U := by generalize U = u; generalize dv _ = t; ac_rfl
  rw [e1, e2, hx.2.1, hy.2.1]
  have e3 : m * U * r * 2 ^ k * U = (r * m * 2 ^ k) * (U * U) := by generalize U = u; ac_rfl
  have e4 : n * U * 2 ^ j * 2 ^ l * U = (n * 2 ^ j * 2 ^ l) * (U * U) := by generalize U = u; ac_rfl
  rw [e3, e4]; exact (mul_le (Int.mul_pos U_pos U_pos)).mpr h
theorem div_hi {x y : UInt64} {n m r : Int} {k j l A B : Nat} (hx : DQ x n k A) (hy : DQ y m j B) (hm : 0 < m) (hr : r.natAbs ≤ 9007199254740992) (hl : l ≤ 1000) (h : n * 2 ^ j * 2 ^ l ≤ r * m * 2 ^ k) : dv (FP.ddiv x y) * 2 ^ l ≤ r * U := by
  refine div_hi0 hx.1 hy.1 (hy.pos hm) hr hl ((mul_le (Int.mul_pos (pw_pos k) (pw_pos j))).mp ?_)
  have e1 : r * U * dv y * (2 ^ k * 2 ^ j) = (dv y * 2 ^ j) * r * 2 ^ k * U := by generalize U = u; generalize dv _ = t; ac_rfl
  have e2 : dv x * U * 2 ^ l * (2 ^ k * 2 ^ j) = (dv x * 2 ^ k) * 2 ^ j * 2 ^ l * U := by generalize U = u; generalize dv _ = t; ac_rfl
  rw [e1, e2, hx.2.1, hy.2.1]
  have e3 : m * U * r * 2 ^ k * U = (r * m * 2 ^ k) * (U * U) := by generalize U = u; ac_rfl
  have e4 : n * U * 2 ^ j * 2 ^ l * U = (n * 2 ^ j * 2 ^ l) * (U * U) := by generalize U = u; ac_rfl
  rw [e3, e4]; exact (mul_le (Int.mul_pos U_pos U_pos)).mpr h
theorem fin_bd {z : UInt64} {r t : Int} {l k : Nat} (hz : val64 z ≠ .nan) (h1 : r * U ≤ dv z * 2 ^ l) (h2 : dv z * 2 ^ k ≤ t * U) (hr : r.natAbs ≤ 9007199254740992) (ht : t.natAbs ≤ 9007199254740992) (hl : l ≤ 1000) (hk : k ≤ 1000) : DFin z := by
  obtain ⟨w, hw, e⟩ := rep r l (by omega) hl
  obtain ⟨v, hv, e'⟩ := rep t k (by omega) hk
  exact fin_of hz hv hw ((mul_le (pw_pos k)).mp (by rw [e']; exact h2)) ((mul_le (pw_pos l)).mp (by rw [e]; exact h1))
theorem DQ.dv0 {d : UInt64} {n : Int} {A : Nat} (h : DQ d n 0 A) : dv d = n * U := by have := h.2.1; rw [Int.pow_zero, Int.mul_one] at this; exact this
theorem i32_na (x : Int32) : x.toInt.natAbs ≤ 2147483648 := by have h1 := Int32.toInt_lt x; have h2 := Int32.le_toInt x; omega
theorem and_rng {x m v : Int32} {M : Int} (h : x &&& m = v) (hm : m.toInt = M) (h0 : 0 ≤ M) : 0 ≤ v.toInt ∧ v.toInt ≤ M := by
  subst h hm
  have h1 : (x &&& m).toBitVec.toNat ≤ m.toBitVec.toNat := by rw [Int32.toBitVec_and, BitVec.toNat_and]; exact Nat.and_le_right
  have e1 : m.toInt = m.toBitVec.toInt := rfl
  have e2 : (x &&& m).toInt = (x &&& m).toBitVec.toInt := rfl
  have l1 := m.toBitVec.isLt
  have l2 := (x &&& m).toBitVec.isLt
  rw [e1, BitVec.toInt_eq_toNat_cond] at h0 ⊢
  rw [e2, BitVec.toInt_eq_toNat_cond]
  split at h0 <;> split <;> omega
theorem i32_lit {v k : Int32} {K : Int} (hk : k.toInt = K) (h : v.toInt = K) : v = k := Int32.toInt_inj.mp (by rw [hk, h])
theorem i64_lit {v k : Int64} {K : Int} (hk : k.toInt = K) (h : v.toInt = K) : v = k := Int64.toInt_inj.mp (by rw [hk, h])
theorem rem_rng {x y v : Int32} {Y : Int} (h : x - x / y * y = v) (hx : 0 ≤ x.toInt) (hy : y.toInt = Y) (hY : 0 < Y) : v.toInt = x.toInt % Y := by
  have e : x - x / y * y = x % y := irem_eq_mod x y
  rw [← h, e, Int32.toInt_mod, hy, Int.tmod_eq_emod_of_nonneg hx]
theorem rem_bd {x y v : Int32} {Y : Int} (h : x - x / y * y = v) (hx : 0 ≤ x.toInt) (hy : y.toInt = Y) (hY : 0 < Y) : 0 ≤ v.toInt ∧ v.toInt < Y := by
  rw [rem_rng h hx hy hY]; exact ⟨Int.emod_nonneg _ (by omega), Int.emod_lt_of_pos _ hY⟩
theorem sub_z {x y v : Int32} {i j : Int} (h : x - y = v) (hx : x.toInt = i) (hy : y.toInt = j) (h1 : -2147483648 ≤ i - j) (h2 : i - j < 2147483648) : v.toInt = i - j := by
  subst h hx hy; rw [Int32.toInt_sub]; exact Int.bmod_eq_of_le (by omega) (by omega)
theorem add_z {x y v : Int32} {i j : Int} (h : x + y = v) (hx : x.toInt = i) (hy : y.toInt = j) (h1 : -2147483648 ≤ i + j) (h2 : i + j < 2147483648) : v.toInt = i + j := by
  subst h hx hy; rw [Int32.toInt_add]; exact Int.bmod_eq_of_le (by omega) (by omega)
theorem neg_z {x v : Int32} {i : Int} (h : -x = v) (hx : x.toInt = i) (h1 : -2147483648 < i) : v.toInt = -i := by
  subst h hx; rw [Int32.toInt_neg]; have := Int32.toInt_lt x; exact Int.bmod_eq_of_le (by omega) (by omega)
theorem i2l_z {x : Int32} {v : Int64} {i : Int} (h : x.toInt64 = v) (hx : x.toInt = i) : v.toInt = i := by subst h hx; exact Int32.toInt_toInt64 x
theorem ladd_z {x y v : Int64} {i j : Int} (h : x + y = v) (hx : x.toInt = i) (hy : y.toInt = j) (h1 : -9223372036854775808 ≤ i + j) (h2 : i + j < 9223372036854775808) : v.toInt = i + j := by
  subst h hx hy; rw [Int64.toInt_add]; exact Int.bmod_eq_of_le (by omega) (by omega)
theorem lsub_z {x y v : Int64} {i j : Int} (h : x - y = v) (hx : x.toInt = i) (hy : y.toInt = j) (h1 : -9223372036854775808 ≤ i - j) (h2 : i - j < 9223372036854775808) : v.toInt = i - j := by
  subst h hx hy; rw [Int64.toInt_sub]; exact Int.bmod_eq_of_le (by omega) (by omega)
theorem mul_na {i j : Int} {A B C : Nat} (hi : i.natAbs ≤ A) (hj : j.natAbs ≤ B) (h : A * B ≤ C) : (i * j).natAbs ≤ C := by rw [Int.natAbs_mul]; exact Nat.le_trans (Nat.mul_le_mul hi hj) h
theorem imul_z {x y v : Int32} {i j : Int} {A B : Nat} (h : x * y = v) (hx : x.toInt = i) (hy : y.toInt = j) (hi : i.natAbs ≤ A) (hj : j.natAbs ≤ B) (h1 : A * B < 2147483648) : v.toInt = i * j := by
  subst h hx hy; have := mul_na hi hj (Nat.le_refl _); rw [Int32.toInt_mul]; exact Int.bmod_eq_of_le (by omega) (by omega)
theorem i64_na (x : Int64) : x.toInt.natAbs ≤ 9223372036854775808 := by have h1 := Int64.toInt_lt x; have h2 := Int64.le_toInt x; omega
theorem i2b_na {x v : Int32} (h : x.toInt8.toInt32 = v) : v.toInt.natAbs ≤ 128 := by
  subst h; have h1 := x.toInt8.le_toInt; have h2 := x.toInt8.toInt_lt; rw [Int8.toInt_toInt32]; omega
theorem i2s_na {x v : Int32} (h : x.toInt16.toInt32 = v) : v.toInt.natAbs ≤ 32768 := by
  subst h; have h1 := x.toInt16.le_toInt; have h2 := x.toInt16.toInt_lt; rw [Int16.toInt_toInt32]; omega
theorem lmul_z {x y v : Int64} {i j : Int} {A B : Nat} (h : x * y = v) (hx : x.toInt = i) (hy : y.toInt = j) (hi : i.natAbs ≤ A) (hj : j.natAbs ≤ B) (h1 : A * B < 9223372036854775808) : v.toInt = i * j := by
  subst h hx hy; have := mul_na hi hj (Nat.le_refl _); rw [Int64.toInt_mul]; exact Int.bmod_eq_of_le (by omega) (by omega)
/-! ## Branches by whole numbers -/
def rel (cd : ClassFile.Cond) (i j : Int) : Bool := match cd with
  | .eq => decide (i = j)
  | .ne => decide (¬ i = j)
  | .lt => decide (i < j)
  | .ge => decide (¬ i < j)
  | .gt => decide (j < i)
  | .le => decide (¬ j < i)
theorem rel_eq_t {i j : Int} (h : i = j) : rel .eq i j = true := by simp [rel, h]
theorem rel_eq_f {i j : Int} (h : ¬ i = j) : rel .eq i j = false := by simp [rel, h]
theorem rel_ne_t {i j : Int} (h : ¬ i = j) : rel .ne i j = true := by simp [rel, h]
theorem rel_ne_f {i j : Int} (h : i = j) : rel .ne i j = false := by simp [rel, h]
theorem rel_lt_t {i j : Int} (h : i < j) : rel .lt i j = true := by simp [rel, h]
theorem rel_lt_f {i j : Int} (h : ¬ i < j) : rel .lt i j = false := by simp [rel, h]
theorem rel_ge_t {i j : Int} (h : ¬ i < j) : rel .ge i j = true := by simp [rel, h]
theorem rel_ge_f {i j : Int} (h : i < j) : rel .ge i j = false := by simp [rel, h]
theorem rel_gt_t {i j : Int} (h : j < i) : rel .gt i j = true := by simp [rel, h]
theorem rel_gt_f {i j : Int} (h : ¬ j < i) : rel .gt i j = false := by simp [rel, h]
theorem rel_le_t {i j : Int} (h : ¬ j < i) : rel .le i j = true := by simp [rel, h]
theorem rel_le_f {i j : Int} (h : j < i) : rel .le i j = false := by simp [rel, h]
open Jvm.Op in
theorem icmpR {cd : ClassFile.Cond} {x y : Int32} {i j : Int} {b : Bool} (hx : x.toInt = i) (hy : y.toInt = j) (h : rel cd i j = b) : if_icmp.holds cd x y = b := by
  subst hx hy h
  have e : x = y ↔ x.toInt = y.toInt := Int32.toInt_inj.symm
  have l1 : x < y ↔ x.toInt < y.toInt := Int32.lt_iff_toInt_lt
  have l2 : y < x ↔ y.toInt < x.toInt := Int32.lt_iff_toInt_lt
  cases cd with
  | eq => by_cases q : x.toInt = y.toInt
          · rw [rel_eq_t q, XT.ii_eq_t (e.mpr q)]
          · rw [rel_eq_f q, XT.ii_eq_f (fun z => q (e.mp z))]
  | ne => by_cases q : x.toInt = y.toInt
          · rw [rel_ne_f q, XT.ii_ne_f (e.mpr q)]
          · rw [rel_ne_t q, XT.ii_ne_t (fun z => q (e.mp z))]
  | lt => by_cases q : x.toInt < y.toInt
          · rw [rel_lt_t q, XT.ii_lt_t (l1.mpr q)]
          · rw [rel_lt_f q, XT.ii_lt_f (fun z => q (l1.mp z))]
  | ge => by_cases q : x.toInt < y.toInt
          · rw [rel_ge_f q, XT.ii_ge_f (l1.mpr q)]
          · rw [rel_ge_t q, XT.ii_ge_t (fun z => q (l1.mp z))]
  | gt => by_cases q : y.toInt < x.toInt
          · rw [rel_gt_t q, XT.ii_gt_t (l2.mpr q)]
          · rw [rel_gt_f q, XT.ii_gt_f (fun z => q (l2.mp z))]
  | le => by_cases q : y.toInt < x.toInt
          · rw [rel_le_f q, XT.ii_le_f (l2.mpr q)]
          · rw [rel_le_t q, XT.ii_le_t (fun z => q (l2.mp z))]
open Jvm.Op in
theorem if0R {cd : ClassFile.Cond} {x : Int32} {i : Int} {b : Bool} (hx : x.toInt = i) (h : rel cd i 0 = b) : ifCond.holds cd x = b := by
  subst hx h
  have e : x = 0 ↔ x.toInt = 0 := Int32.toInt_inj.symm
  have l1 : x < 0 ↔ x.toInt < 0 := Int32.lt_iff_toInt_lt
  have l2 : 0 < x ↔ 0 < x.toInt := Int32.lt_iff_toInt_lt
  cases cd with
  | eq => by_cases q : x.toInt = 0
          · rw [rel_eq_t q, XT.i0_eq_t (e.mpr q)]
          · rw [rel_eq_f q, XT.i0_eq_f (fun z => q (e.mp z))]
  | ne => by_cases q : x.toInt = 0
          · rw [rel_ne_f q, XT.i0_ne_f (e.mpr q)]
          · rw [rel_ne_t q, XT.i0_ne_t (fun z => q (e.mp z))]
  | lt => by_cases q : x.toInt < 0
          · rw [rel_lt_t q, XT.i0_lt_t (l1.mpr q)]
          · rw [rel_lt_f q, XT.i0_lt_f (fun z => q (l1.mp z))]
  | ge => by_cases q : x.toInt < 0
          · rw [rel_ge_f q, XT.i0_ge_f (l1.mpr q)]
          · rw [rel_ge_t q, XT.i0_ge_t (fun z => q (l1.mp z))]
  | gt => by_cases q : 0 < x.toInt
          · rw [rel_gt_t q, XT.i0_gt_t (l2.mpr q)]
          · rw [rel_gt_f q, XT.i0_gt_f (fun z => q (l2.mp z))]
  | le => by_cases q : 0 < x.toInt
          · rw [rel_le_f q, XT.i0_le_f (l2.mpr q)]
          · rw [rel_le_t q, XT.i0_le_t (fun z => q (l2.mp z))]
open Jvm.Op in
theorem lcmpR {cd : ClassFile.Cond} {x y : Int64} {i j : Int} {b : Bool} (hx : x.toInt = i) (hy : y.toInt = j) (h : rel cd i j = b) : ifCond.holds cd (XT.cmpL x y) = b := by
  subst hx hy h
  have e : x = y ↔ x.toInt = y.toInt := Int64.toInt_inj.symm
  have l1 : x < y ↔ x.toInt < y.toInt := Int64.lt_iff_toInt_lt
  have l2 : y < x ↔ y.toInt < x.toInt := Int64.lt_iff_toInt_lt
  cases cd with
  | eq => by_cases q : x.toInt = y.toInt
          · rw [rel_eq_t q, XT.ll_eq_t (e.mpr q)]
          · rw [rel_eq_f q, XT.ll_eq_f (fun z => q (e.mp z))]
  | ne => by_cases q : x.toInt = y.toInt
          · rw [rel_ne_f q, XT.ll_ne_f (e.mpr q)]
          · rw [rel_ne_t q, XT.ll_ne_t (fun z => q (e.mp z))]
  | lt => by_cases q : x.toInt < y.toInt
          · rw [rel_lt_t q, XT.ll_lt_t (l1.mpr q)]
          · rw [rel_lt_f q, XT.ll_lt_f (fun z => q (l1.mp z))]
  | ge => by_cases q : x.toInt < y.toInt
          · rw [rel_ge_f q, XT.ll_ge_f (l1.mpr q)]
          · rw [rel_ge_t q, XT.ll_ge_t (fun z => q (l1.mp z))]
  | gt => by_cases q : y.toInt < x.toInt
          · rw [rel_gt_t q, XT.ll_gt_t (l2.mpr q)]
          · rw [rel_gt_f q, XT.ll_gt_f (fun z => q (l2.mp z))]
  | le => by_cases q : y.toInt < x.toInt
          · rw [rel_le_f q, XT.ll_le_f (l2.mpr q)]
          · rw [rel_le_t q, XT.ll_le_t (fun z => q (l2.mp z))]
open Jvm.Op in
theorem cmpR {cd : ClassFile.Cond} {i j : Int} {o : ClassFile.CmpOp} {b : Bool} (h : rel cd i j = b) : ifCond.holds cd (cmpValue (some (compare i j)) o) = b := by
  subst h
  rcases Int.lt_trichotomy i j with q | q | q
  · rw [show compare i j = .lt from (compare_lt_iff i j).mpr q, show cmpValue (some .lt) o = -1 from by cases o <;> rfl]
    rw [show rel cd i j = rel cd (-1) 0 from by cases cd <;> simp [rel] <;> omega]
    exact if0R rfl rfl
  · rw [show compare i j = .eq from (compare_eq_iff i j).mpr q, show cmpValue (some .eq) o = 0 from by cases o <;> rfl]
    rw [show rel cd i j = rel cd 0 0 from by cases cd <;> simp [rel] <;> omega]
    exact if0R rfl rfl
  · rw [show compare i j = .gt from (compare_gt_iff i j).mpr q, show cmpValue (some .gt) o = 1 from by cases o <;> rfl]
    rw [show rel cd i j = rel cd 1 0 from by cases cd <;> simp [rel] <;> omega]
    exact if0R rfl rfl
open Jvm.Op in
theorem dvR {cd : ClassFile.Cond} {x y : UInt64} {o : ClassFile.CmpOp} {b : Bool} (hx : val64 x ≠ .nan) (hy : val64 y ≠ .nan) (h : rel cd (dv x) (dv y) = b) : ifCond.holds cd (cmpValue (FP.dcmp x y) o) = b := by
  rw [dcmpZ hx hy]; exact cmpR h
theorem rel_mul {cd : ClassFile.Cond} {i j u : Int} (hu : 0 < u) : rel cd (i * u) (j * u) = rel cd i j := by
  have e : i * u = j * u ↔ i = j := ⟨mul_cancel hu, fun h => by rw [h]⟩
  cases cd <;> simp only [rel, mul_lt hu, e]
open Jvm.Op in
theorem dcmpR {cd : ClassFile.Cond} {x y : UInt64} {n m : Int} {k A B : Nat} {o : ClassFile.CmpOp} {b : Bool} (hx : DQ x n k A) (hy : DQ y m k B) (h : rel cd n m = b) : ifCond.holds cd (cmpValue (FP.dcmp x y) o) = b := by
  refine dvR hx.ne hy.ne ?_
  rw [← rel_mul (pw_pos k), hx.2.1, hy.2.1, rel_mul U_pos]; exact h
theorem dq_zero : DQ 0 0 0 0 := ⟨⟨false, 0, b64.qmin, val64_zero⟩, by unfold dv; rw [zval64_zero, Int.zero_mul, Int.zero_mul], by decide⟩
theorem dq_nzero : DQ 9223372036854775808 0 0 0 := ⟨⟨true, 0, b64.qmin, by decide +kernel⟩, by rw [show dv 9223372036854775808 = 0 from by unfold dv; rw [show val64 9223372036854775808 = .fin true 0 b64.qmin from by decide +kernel]; simp [zval, sgn, zmag, inUnits, signed]]; rw [Int.zero_mul, Int.zero_mul], by decide⟩
theorem nn_ninf : val64 18442240474082181120 ≠ .nan := by decide +kernel
theorem dq_of {b : UInt64} {i : Int} {A : Nat} (h : FP.l2d (Int64.ofInt i) = b) (hi : (Int64.ofInt i).toInt = i) (hA : i.natAbs ≤ A) (hA' : A ≤ 9007199254740992) : DQ b i 0 A := h ▸ dq_l2d hi hA hA'
theorem dq_one : DQ 4607182418800017408 1 0 1 := dq_of (by decide +kernel) (by decide) (by decide) (by decide)
section DW
open Sem ClassFile Op Lib Jvm.Stand Jvm.Free Jvm.LawKit Jvm.RoadKit
variable {p : Program} {l : Launch} {e : Env} {R : Room} {s : State} {m : MethodId} {args : Array Value} {below : List Frame} {meth : Method} {c : Code} {Z : State} {a0 : Array Value} {n0 : Nat} {own : String} {bytes : ByteArray} {ml : Nat} {ret : Option FieldType} {T : State} {H : List Ent} {kc ks : Nat} {K : State → Prop} {pc pc' : Nat} {Ls : Array Slot} {S : List Value}
theorem w_i2dW (C : Ctx p l e R s m args below meth c Z a0 n0 own bytes ml ret T H kc ks) {x : Int32} {i : Int} {A : Nat} (hd : decode bytes pc = .ok (.i2d, 1)) (hp : pc + 1 = pc') (hi : x.toInt = i) (hA : i.natAbs ≤ A) (q : ∀ v, DQ v i 0 A → Go p e below K (T.setTop (mkF m pc' Ls (.double v :: S)))) : Go p e below K (T.setTop (mkF m pc Ls (.int x :: S))) :=
  w_i2d C hd hp rfl (q _ (dq_i2d hi hA))
theorem w_l2dW (C : Ctx p l e R s m args below meth c Z a0 n0 own bytes ml ret T H kc ks) {x : Int64} {i : Int} {A : Nat} (hd : decode bytes pc = .ok (.l2d, 1)) (hp : pc + 1 = pc') (hi : x.toInt = i) (hA : i.natAbs ≤ A) (hA' : A ≤ 9007199254740992) (q : ∀ v, DQ v i 0 A → Go p e below K (T.setTop (mkF m pc' Ls (.double v :: S)))) : Go p e below K (T.setTop (mkF m pc Ls (.long x :: S))) :=
  w_l2d C hd hp rfl (q _ (dq_l2d hi hA hA'))
theorem w_daddW (C : Ctx p l e R s m args below meth c Z a0 n0 own bytes ml ret T H kc ks) {x y : UInt64} {i j : Int} {k A A' B : Nat} (hd : decode bytes pc = .ok (.dadd, 1)) (hp : pc + 1 = pc') (wx : DQ x i k A) (wy : DQ y j k A') (hB : A + A' ≤ B) (hB' : B ≤ 9007199254740992) (hk : k ≤ 1000) (q : ∀ v, DQ v (i + j) k B → Go p e below K (T.setTop (mkF m pc' Ls (.double v :: S)))) : Go p e below K (T.setTop (mkF m pc Ls (.double y :: .double x :: S))) :=
  w_dadd C hd hp (wx.add wy hB hB' hk).nn rfl (q _ (wx.add wy hB hB' hk))
theorem w_dsubW (C : Ctx p l e R s m args below meth c Z a0 n0 own bytes ml ret T H kc ks) {x y : UInt64} {i j : Int} {k A A' B : Nat} (hd : decode bytes pc = .ok (.dsub, 1)) (hp : pc + 1 = pc') (wx : DQ x i k A) (wy : DQ y j k A') (hB : A + A' ≤ B) (hB' : B ≤ 9007199254740992) (hk : k ≤ 1000) (q : ∀ v, DQ v (i - j) k B → Go p e below K (T.setTop (mkF m pc' Ls (.double v :: S)))) : Go p e below K (T.setTop (mkF m pc Ls (.double y :: .double x :: S))) :=
  w_dsub C hd hp (wx.sub wy hB hB' hk).nn rfl (q _ (wx.sub wy hB hB' hk))
theorem w_dmulW (C : Ctx p l e R s m args below meth c Z a0 n0 own bytes ml ret T H kc ks) {x y : UInt64} {i j : Int} {k k' k'' A A' B : Nat} (hd : decode bytes pc = .ok (.dmul, 1)) (hp : pc + 1 = pc') (wx : DQ x i k A) (wy : DQ y j k' A') (hB : A * A' ≤ B) (hB' : B ≤ 9007199254740992) (hk' : k + k' = k'') (hk : k'' ≤ 1000) (q : ∀ v, DQ v (i * j) k'' B → Go p e below K (T.setTop (mkF m pc' Ls (.double v :: S)))) : Go p e below K (T.setTop (mkF m pc Ls (.double y :: .double x :: S))) := by
  subst hk'; exact w_dmul C hd hp (wx.mul wy hB hB' hk).nn rfl (q _ (wx.mul wy hB hB' hk))
theorem w_ddivW (C : Ctx p l e R s m args below meth c Z a0 n0 own bytes ml ret T H kc ks) {x y : UInt64} {i j r : Int} {k k' l' A A' B : Nat} (hd : decode bytes pc = .ok (.ddiv, 1)) (hp : pc + 1 = pc') (wx : DQ x i k A) (wy : DQ y j k' A') (hj : 0 < j) (hr : i * 2 ^ k' * 2 ^ l' = r * j * 2 ^ k) (hB : r.natAbs ≤ B) (hB' : B ≤ 9007199254740992) (hk : l' ≤ 1000) (q : ∀ v, DQ v r l' B → Go p e below K (T.setTop (mkF m pc' Ls (.double v :: S)))) : Go p e below K (T.setTop (mkF m pc Ls (.double y :: .double x :: S))) :=
  w_ddiv C hd hp (wx.div wy hj hr hB hB' hk).nn rfl (q _ (wx.div wy hj hr hB hB' hk))
end DW
end Jvm.OwnW

namespace Jvm.Pilot.@@N@@
open Jvm Jvm.ClassFile Sem Op Lib Jvm.Free Jvm.Stand Jvm.LawKit Jvm.RoadKit Bundle Jvm.OwnW Jvm.Pilot.@@N@@.Jvm.D
theorem pn_0 : plainFor x = true := plainFor_of_name (by first | (simp [plainName, overriddenIn]; done) | decide +kernel)
theorem d1_0 : decode method_2_code 0 = .ok (.iload_n 0, 1) := by decide +kernel
theorem d1_1 : decode method_2_code 1 = .ok (.sipush 1023, 3) := by decide +kernel
theorem d1_4 : decode method_2_code 4 = .ok (.iand, 1) := by decide +kernel
theorem d1_5 : decode method_2_code 5 = .ok (.iconst 1, 1) := by decide +kernel
theorem d1_6 : decode method_2_code 6 = .ok (.iadd, 1) := by decide +kernel
theorem d1_7 : decode method_2_code 7 = .ok (.i2d, 1) := by decide +kernel
theorem d1_8 : decode method_2_code 8 = .ok (.ldc2_w 7, 3) := by decide +kernel
theorem d1_11 : decode method_2_code 11 = .ok (.ddiv, 1) := by decide +kernel
theorem d1_12 : decode method_2_code 12 = .ok (.dreturn, 1) := by decide +kernel
theorem pn_1 : plainFor (⟨"com/example/sumac/sumac/links/IdentityApplyPinLaw", "score", "(I)D"⟩ : MethodName) = true := plainFor_of_name (by first | (simp [plainName, overriddenIn]; done) | decide +kernel)
theorem pd_1 : parseMethodDescriptor "(I)D" = some ⟨[.int], some .double⟩ := by decide +kernel
theorem d2_0 : decode prog_6_method_1_code 0 = .ok (.aload_n 0, 1) := by decide +kernel
theorem d2_1 : decode prog_6_method_1_code 1 = .ok (.invokespecial 1, 3) := by decide +kernel
theorem d2_4 : decode prog_6_method_1_code 4 = .ok (.return_, 1) := by decide +kernel
theorem pn_2 : plainFor (⟨"com/example/sumac/sumac/links/Identity", "<init>", "()V"⟩ : MethodName) = true := plainFor_of_name (by first | (simp [plainName, overriddenIn]; done) | decide +kernel)
theorem pd_2 : parseMethodDescriptor "()V" = some ⟨[], none⟩ := by decide +kernel

theorem d4_0 : decode prog_6_method_2_code 0 = .ok (.aload_n 1, 1) := by decide +kernel
theorem d4_1 : decode prog_6_method_2_code 1 = .ok (.astore_n 2, 1) := by decide +kernel
theorem d4_2 : decode prog_6_method_2_code 2 = .ok (.aload_n 2, 1) := by decide +kernel
theorem d4_3 : decode prog_6_method_2_code 3 = .ok (.arraylength, 1) := by decide +kernel
theorem d4_4 : decode prog_6_method_2_code 4 = .ok (.istore_n 3, 1) := by decide +kernel
theorem d4_5 : decode prog_6_method_2_code 5 = .ok (.iconst 0, 1) := by decide +kernel
theorem d4_6 : decode prog_6_method_2_code 6 = .ok (.istore 4, 2) := by decide +kernel
theorem d4_8 : decode prog_6_method_2_code 8 = .ok (.iload 4, 2) := by decide +kernel
theorem d4_10 : decode prog_6_method_2_code 10 = .ok (.iload_n 3, 1) := by decide +kernel
theorem d4_11 : decode prog_6_method_2_code 11 = .ok (.if_icmp .ge 21, 3) := by decide +kernel
theorem d4_14 : decode prog_6_method_2_code 14 = .ok (.aload_n 2, 1) := by decide +kernel
theorem d4_15 : decode prog_6_method_2_code 15 = .ok (.iload 4, 2) := by decide +kernel
theorem d4_17 : decode prog_6_method_2_code 17 = .ok (.daload, 1) := by decide +kernel
theorem d4_18 : decode prog_6_method_2_code 18 = .ok (.dstore 5, 2) := by decide +kernel
theorem d4_20 : decode prog_6_method_2_code 20 = .ok (.aload_n 0, 1) := by decide +kernel
theorem d4_21 : decode prog_6_method_2_code 21 = .ok (.dload 5, 2) := by decide +kernel
theorem d4_23 : decode prog_6_method_2_code 23 = .ok (.invokevirtual 7, 3) := by decide +kernel
theorem d4_26 : decode prog_6_method_2_code 26 = .ok (.iinc 4 1, 3) := by decide +kernel
theorem d4_29 : decode prog_6_method_2_code 29 = .ok (.goto (-21), 3) := by decide +kernel
theorem d4_32 : decode prog_6_method_2_code 32 = .ok (.aload_n 1, 1) := by decide +kernel
theorem d4_33 : decode prog_6_method_2_code 33 = .ok (.invokevirtual 13, 3) := by decide +kernel
theorem d4_36 : decode prog_6_method_2_code 36 = .ok (.checkcast 14, 3) := by decide +kernel
theorem d4_39 : decode prog_6_method_2_code 39 = .ok (.areturn, 1) := by decide +kernel
theorem pn_4 : plainFor (⟨"com/example/sumac/sumac/links/Identity", "apply", "([D)[D"⟩ : MethodName) = true := plainFor_of_name (by first | (simp [plainName, overriddenIn]; done) | decide +kernel)
theorem pd_4 : parseMethodDescriptor "([D)[D" = some ⟨[(.array .double)], some (.array .double)⟩ := by decide +kernel
theorem d5_0 : decode prog_6_method_3_code 0 = .ok (.dload_n 1, 1) := by decide +kernel
theorem d5_1 : decode prog_6_method_3_code 1 = .ok (.dconst 0, 1) := by decide +kernel
theorem d5_2 : decode prog_6_method_3_code 2 = .ok (.dcmp .l, 1) := by decide +kernel
theorem d5_3 : decode prog_6_method_3_code 3 = .ok (.ifCond .le 9, 3) := by decide +kernel
theorem d5_6 : decode prog_6_method_3_code 6 = .ok (.dload_n 1, 1) := by decide +kernel
theorem d5_7 : decode prog_6_method_3_code 7 = .ok (.dconst 1, 1) := by decide +kernel
theorem d5_8 : decode prog_6_method_3_code 8 = .ok (.dcmp .g, 1) := by decide +kernel
theorem d5_9 : decode prog_6_method_3_code 9 = .ok (.ifCond .le 17, 3) := by decide +kernel
theorem d5_12 : decode prog_6_method_3_code 12 = .ok (.new 19, 3) := by decide +kernel
theorem d5_15 : decode prog_6_method_3_code 15 = .ok (.dup, 1) := by decide +kernel
theorem d5_16 : decode prog_6_method_3_code 16 = .ok (.dload_n 1, 1) := by decide +kernel
theorem d5_22 : decode prog_6_method_3_code 22 = .ok (.invokespecial 25, 3) := by decide +kernel
theorem d5_25 : decode prog_6_method_3_code 25 = .ok (.athrow, 1) := by decide +kernel
theorem d5_26 : decode prog_6_method_3_code 26 = .ok (.return_, 1) := by decide +kernel
theorem pn_5 : plainFor (⟨"com/example/sumac/sumac/links/Identity", "check", "(D)V"⟩ : MethodName) = true := plainFor_of_name (by first | (simp [plainName, overriddenIn]; done) | decide +kernel)
theorem pd_5 : parseMethodDescriptor "(D)V" = some ⟨[.double], none⟩ := by decide +kernel
open FP.Core in
theorem scr {x : UInt64} {k : Int} (hx : DQ x k 10 1024) (h1 : 1 ≤ k) (h2 : k ≤ 1024) : val64 x ≠ .nan ∧ dv 0 < dv x ∧ ¬ dv 4607182418800017408 < dv x := by
  have e := hx.2.1
  have hU := U_pos
  have e0 : dv 0 = 0 := by have := dq_zero.dv0; rw [Int.zero_mul] at this; exact this
  have e1 : dv 4607182418800017408 = U := by have := dq_one.dv0; rw [Int.one_mul] at this; exact this
  have l1 : 1 * U ≤ k * U := (mul_le hU).mpr h1
  have l2 : k * U ≤ 1024 * U := (mul_le hU).mpr h2
  simp only [Int.reducePow, Int.one_mul] at e l1
  rw [e0, e1]
  exact ⟨hx.ne, by omega, by omega⟩
set_option maxRecDepth 65536 in
set_option maxHeartbeats 40000000 in
theorem cnS (l : Launch) (Z : State) (a0 : Array Value) (hw : ∀ d ∈ tables_1, d.before a0 Z = true) (n0 : Nat) (H : List Ent) (p0 : Int32)  :
    Con l Z a0 n0 (⟨"com/example/sumac/sumac/links/IdentityApplyPinLaw", "score", "(I)D"⟩ : MethodName) method_2_code 1 (some .double) ({ frames := 0, cells := 0, slots := 0, locals := 0 } : Room) #[(.int p0)] H (fun v H' => ∃ d, v = some (.double d) ∧ H' = H ∧ FP.Core.val64 d ≠ .nan ∧ dv 0 < dv d ∧ ¬ dv 4607182418800017408 < dv d) := by
  refine Con.of (Ls := #[.val (.int p0)]) pn_1 (fun m => by first | (simp [entryFrame, mkF, argsToLocals, Value.category]; done) | rfl) ?_
  intro p e s m below meth c T0 hnm C0
  refine w_iloadN (pc' := 1) C0 d1_0 rfl rfl ?_
  refine w_sipush (pc' := 4) (v := (1023 : Int32)) C0 d1_1 rfl rfl ?_
  obtain ⟨i1, hi1⟩ : ∃ z : Int32, p0 &&& (1023 : Int32) = z := ⟨_, rfl⟩
  refine w_iand (pc' := 5) (v := i1) C0 d1_4 rfl hi1 ?_
  have rgi1 := and_rng hi1 (M := 1023) rfl (by decide)
  refine w_iconst (pc' := 6) (v := (1 : Int32)) C0 d1_5 rfl rfl ?_
  obtain ⟨i2, hi2⟩ : ∃ z : Int32, i1 + (1 : Int32) = z := ⟨_, rfl⟩
  refine w_iadd (pc' := 7) (v := i2) C0 d1_6 rfl hi2 ?_
  have zi2 : i2.toInt = (i1.toInt + 1) := add_z hi2 rfl rfl (by have b1 : Int.natAbs i1.toInt ≤ 1023 := (by omega); have b2 : Int.natAbs 1 ≤ 1 := (by decide); omega) (by have b1 : Int.natAbs i1.toInt ≤ 1023 := (by omega); have b2 : Int.natAbs 1 ≤ 1 := (by decide); omega)
  have bi2 : Int.natAbs (i1.toInt + 1) ≤ 1024 := (by have b1 : Int.natAbs i1.toInt ≤ 1023 := (by omega); have b2 : Int.natAbs 1 ≤ 1 := (by decide); omega)
  refine w_i2dW (pc' := 8) (i := (i1.toInt + 1)) (A := 1024) C0 d1_7 rfl zi2 bi2 ?_
  intro d3 wd3
  refine w_ldcD (pc' := 11) (v := 4652218415073722368) C0 (hw _ (List.mem_of_getElem? (i := 4) rfl)) d1_8 rfl ?_
  refine w_ddivW (pc' := 12) (r := (i1.toInt + 1)) (l' := 10) (B := 1024) C0 d1_11 rfl wd3 (dq_of (b := 4652218415073722368) (i := 1024) (A := 1024) (by decide +kernel) (by decide) (by decide) (by decide)) (by decide) (by omega) (by omega) (by decide) (by decide) ?_
  intro d4 wd4
  exact w_dreturn C0 rfl d1_12 ⟨_, rfl, rfl, scr wd4 (by omega) (by omega)⟩
set_option maxRecDepth 65536 in
set_option maxHeartbeats 40000000 in
theorem cnI0 (l : Launch) (Z : State) (a0 : Array Value) (hw : ∀ d ∈ tables_1, d.before a0 Z = true) (n0 : Nat) (a o : Addr)   :
    Con l Z a0 n0 (⟨"com/example/sumac/sumac/links/Identity", "<init>", "()V"⟩ : MethodName) prog_6_method_1_code 1 none ({ frames := 1, cells := 0, slots := 0, locals := 12 } : Room) #[(.ref o)] [(a, .inl (.double, [])), (o, .inr ("com/example/sumac/sumac/links/Identity", []))] (fun v H' => v = none ∧ H' = [(a, .inl (.double, [])), (o, .inr ("com/example/sumac/sumac/links/Identity", []))]) := by
  refine Con.of (Ls := #[.val (.ref o)]) pn_2 (fun m => by first | (simp [entryFrame, mkF, argsToLocals, Value.category]; done) | rfl) ?_
  intro p e s m below meth c T0 hnm C0
  refine w_aloadN (pc' := 1) C0 d2_0 rfl rfl rfl ?_
  refine w_objInit (pc' := 4) C0 0 (hw _ (List.mem_of_getElem? (i := 12) rfl)) (hw _ (List.mem_of_getElem? (i := 13) rfl)) (hw _ (List.mem_of_getElem? (i := 14) rfl)) rfl (Nat.le_of_ble_eq_true rfl) (by decide) (by decide) d2_1 rfl ?_
  intro T1 C2
  exact w_return C2 rfl d2_4 ⟨rfl, rfl⟩
set_option maxRecDepth 65536 in
set_option maxHeartbeats 40000000 in
theorem cnC0 (l : Launch) (Z : State) (a0 : Array Value) (hw : ∀ d ∈ tables_1, d.before a0 Z = true) (n0 : Nat) (a o : Addr)  (d : UInt64) (hd : FP.Core.val64 d ≠ .nan ∧ dv 0 < dv d ∧ ¬ dv 4607182418800017408 < dv d) :
    Con l Z a0 n0 (⟨"com/example/sumac/sumac/links/Identity", "check", "(D)V"⟩ : MethodName) prog_6_method_3_code 3 none ({ frames := 0, cells := 0, slots := 0, locals := 0 } : Room) #[(.ref o), (.double d)] [(a, .inl (.double, [])), (o, .inr ("com/example/sumac/sumac/links/Identity", []))] (fun v H' => v = none ∧ H' = [(a, .inl (.double, [])), (o, .inr ("com/example/sumac/sumac/links/Identity", []))]) := by
  refine Con.of (Ls := #[.val (.ref o), .val (.double d), .second]) pn_5 (fun m => by first | (simp [entryFrame, mkF, argsToLocals, Value.category]; done) | rfl) ?_
  intro p e s m below meth c T0 hnm C0
  refine w_dloadN (pc' := 1) C0 d5_0 rfl rfl ?_
  refine w_dconst0 (pc' := 2) C0 d5_1 rfl ?_
  refine w_dcmp (pc' := 3) C0 d5_2 rfl rfl ?_
  refine w_if (pc' := 6) C0 false d5_3 (dvR hd.1 dq_zero.ne (rel_le_f hd.2.1)) (by decide) rfl ?_
  refine w_dloadN (pc' := 7) C0 d5_6 rfl rfl ?_
  refine w_dconst1 (pc' := 8) C0 d5_7 rfl ?_
  refine w_dcmp (pc' := 9) C0 d5_8 rfl rfl ?_
  refine w_if (pc' := 26) C0 true d5_9 (dvR hd.1 dq_one.ne (rel_le_t hd.2.2)) (by decide) rfl ?_
  exact w_return C0 rfl d5_26 ⟨rfl, rfl⟩
set_option maxRecDepth 65536 in
set_option maxHeartbeats 40000000 in
theorem cnA0 (l : Launch) (Z : State) (a0 : Array Value) (hw : ∀ d ∈ tables_1, d.before a0 Z = true) (n0 : Nat) (a o : Addr)   :
    Con l Z a0 n0 (⟨"com/example/sumac/sumac/links/Identity", "apply", "([D)[D"⟩ : MethodName) prog_6_method_2_code 7 (some (.array .double)) ({ frames := 1, cells := 1, slots := 0, locals := 14 } : Room) #[(.ref o), (.ref a)] [(a, .inl (.double, [])), (o, .inr ("com/example/sumac/sumac/links/Identity", []))] (fun v H' => ∃ r : Addr, v = some (.ref r) ∧ H' = [(a, .inl (.double, [])), (o, .inr ("com/example/sumac/sumac/links/Identity", [])), (r, .inl (.double, []))]) := by
  refine Con.of (Ls := #[.val (.ref o), .val (.ref a), .unset, .unset, .unset, .unset, .unset]) pn_4 (fun m => by first | (simp [entryFrame, mkF, argsToLocals, Value.category]; done) | rfl) ?_
  intro p e s m below meth c T0 hnm C0
  refine w_aloadN (pc' := 1) C0 d4_0 rfl rfl rfl ?_
  refine w_astoreN (pc' := 2) (l' := #[.val (.ref o), .val (.ref a), .val (.ref a), .unset, .unset, .unset, .unset]) C0 d4_1 rfl rfl rfl ?_
  refine w_aloadN (pc' := 3) C0 d4_2 rfl rfl rfl ?_
  refine w_arraylength (pc' := 4) (v := (0 : Int32)) C0 0 rfl rfl d4_3 rfl ?_
  refine w_istoreN (pc' := 5) (l' := #[.val (.ref o), .val (.ref a), .val (.ref a), .val (.int (0 : Int32)), .unset, .unset, .unset]) C0 d4_4 rfl rfl ?_
  refine w_iconst (pc' := 6) (v := (0 : Int32)) C0 d4_5 rfl rfl ?_
  refine w_istore (pc' := 8) (l' := #[.val (.ref o), .val (.ref a), .val (.ref a), .val (.int (0 : Int32)), .val (.int (0 : Int32)), .unset, .unset]) C0 d4_6 rfl rfl ?_
  refine w_iload (pc' := 10) C0 d4_8 rfl rfl ?_
  refine w_iloadN (pc' := 11) C0 d4_10 rfl rfl ?_
  refine w_icmp (pc' := 32) C0 true d4_11 (icmpR (i := 0) (j := 0) rfl rfl (by decide)) (by decide) rfl ?_
  refine w_aloadN (pc' := 33) C0 d4_32 rfl rfl rfl ?_
  refine w_clone (pc' := 36) (k := 0) (ad := "[D") (kc' := 1) (ks' := 0) C0 0 0 rfl rfl (by simp [fits]) rfl (hw _ (List.mem_of_getElem? (i := 20) rfl)) (hw _ (List.mem_of_getElem? (i := 21) rfl)) (hw _ (List.mem_of_getElem? (i := 25) rfl)) (hw _ (List.mem_of_getElem? (i := 23) rfl)) (hw _ (List.mem_of_getElem? (i := 24) rfl)) (hw _ (List.mem_of_getElem? (i := 26) rfl)) rfl (Nat.le_of_ble_eq_true rfl) (by decide) (by decide) rfl rfl (by decide) (by decide) d4_33 rfl ?_
  intro T1 a3 C2
  refine w_checkcastA (pc' := 39) (ad := "[D") C2 2 rfl rfl (hw _ (List.mem_of_getElem? (i := 27) rfl)) d4_36 rfl ?_
  intro T4 C5
  exact w_areturn C5 rfl rfl rfl d4_39 ⟨_, rfl, rfl⟩
set_option maxRecDepth 65536 in
set_option maxHeartbeats 40000000 in
theorem cnI1 (l : Launch) (Z : State) (a0 : Array Value) (hw : ∀ d ∈ tables_1, d.before a0 Z = true) (n0 : Nat) (a o : Addr) (d0 : UInt64)  :
    Con l Z a0 n0 (⟨"com/example/sumac/sumac/links/Identity", "<init>", "()V"⟩ : MethodName) prog_6_method_1_code 1 none ({ frames := 1, cells := 0, slots := 0, locals := 12 } : Room) #[(.ref o)] [(a, .inl (.double, [(.double d0)])), (o, .inr ("com/example/sumac/sumac/links/Identity", []))] (fun v H' => v = none ∧ H' = [(a, .inl (.double, [(.double d0)])), (o, .inr ("com/example/sumac/sumac/links/Identity", []))]) := by
  refine Con.of (Ls := #[.val (.ref o)]) pn_2 (fun m => by first | (simp [entryFrame, mkF, argsToLocals, Value.category]; done) | rfl) ?_
  intro p e s m below meth c T0 hnm C0
  refine w_aloadN (pc' := 1) C0 d2_0 rfl rfl rfl ?_
  refine w_objInit (pc' := 4) C0 0 (hw _ (List.mem_of_getElem? (i := 12) rfl)) (hw _ (List.mem_of_getElem? (i := 13) rfl)) (hw _ (List.mem_of_getElem? (i := 14) rfl)) rfl (Nat.le_of_ble_eq_true rfl) (by decide) (by decide) d2_1 rfl ?_
  intro T1 C2
  exact w_return C2 rfl d2_4 ⟨rfl, rfl⟩
set_option maxRecDepth 65536 in
set_option maxHeartbeats 40000000 in
theorem cnC1 (l : Launch) (Z : State) (a0 : Array Value) (hw : ∀ d ∈ tables_1, d.before a0 Z = true) (n0 : Nat) (a o : Addr) (d0 : UInt64) (d : UInt64) (hd : FP.Core.val64 d ≠ .nan ∧ dv 0 < dv d ∧ ¬ dv 4607182418800017408 < dv d) :
    Con l Z a0 n0 (⟨"com/example/sumac/sumac/links/Identity", "check", "(D)V"⟩ : MethodName) prog_6_method_3_code 3 none ({ frames := 0, cells := 0, slots := 0, locals := 0 } : Room) #[(.ref o), (.double d)] [(a, .inl (.double, [(.double d0)])), (o, .inr ("com/example/sumac/sumac/links/Identity", []))] (fun v H' => v = none ∧ H' = [(a, .inl (.double, [(.double d0)])), (o, .inr ("com/example/sumac/sumac/links/Identity", []))]) := by
  refine Con.of (Ls := #[.val (.ref o), .val (.double d), .second]) pn_5 (fun m => by first | (simp [entryFrame, mkF, argsToLocals, Value.category]; done) | rfl) ?_
  intro p e s m below meth c T0 hnm C0
  refine w_dloadN (pc' := 1) C0 d5_0 rfl rfl ?_
  refine w_dconst0 (pc' := 2) C0 d5_1 rfl ?_
  refine w_dcmp (pc' := 3) C0 d5_2 rfl rfl ?_
  refine w_if (pc' := 6) C0 false d5_3 (dvR hd.1 dq_zero.ne (rel_le_f hd.2.1)) (by decide) rfl ?_
  refine w_dloadN (pc' := 7) C0 d5_6 rfl rfl ?_
  refine w_dconst1 (pc' := 8) C0 d5_7 rfl ?_
  refine w_dcmp (pc' := 9) C0 d5_8 rfl rfl ?_
  refine w_if (pc' := 26) C0 true d5_9 (dvR hd.1 dq_one.ne (rel_le_t hd.2.2)) (by decide) rfl ?_
  exact w_return C0 rfl d5_26 ⟨rfl, rfl⟩
set_option maxRecDepth 65536 in
set_option maxHeartbeats 40000000 in
theorem cnA1 (l : Launch) (Z : State) (a0 : Array Value) (hw : ∀ d ∈ tables_1, d.before a0 Z = true) (n0 : Nat) (a o : Addr) (d0 : UInt64) (h0 : FP.Core.val64 d0 ≠ .nan ∧ dv 0 < dv d0 ∧ ¬ dv 4607182418800017408 < dv d0) :
    Con l Z a0 n0 (⟨"com/example/sumac/sumac/links/Identity", "apply", "([D)[D"⟩ : MethodName) prog_6_method_2_code 7 (some (.array .double)) ({ frames := 1, cells := 1, slots := 1, locals := 14 } : Room) #[(.ref o), (.ref a)] [(a, .inl (.double, [(.double d0)])), (o, .inr ("com/example/sumac/sumac/links/Identity", []))] (fun v H' => ∃ r : Addr, v = some (.ref r) ∧ H' = [(a, .inl (.double, [(.double d0)])), (o, .inr ("com/example/sumac/sumac/links/Identity", [])), (r, .inl (.double, [(.double d0)]))]) := by
  refine Con.of (Ls := #[.val (.ref o), .val (.ref a), .unset, .unset, .unset, .unset, .unset]) pn_4 (fun m => by first | (simp [entryFrame, mkF, argsToLocals, Value.category]; done) | rfl) ?_
  intro p e s m below meth c T0 hnm C0
  refine w_aloadN (pc' := 1) C0 d4_0 rfl rfl rfl ?_
  refine w_astoreN (pc' := 2) (l' := #[.val (.ref o), .val (.ref a), .val (.ref a), .unset, .unset, .unset, .unset]) C0 d4_1 rfl rfl rfl ?_
  refine w_aloadN (pc' := 3) C0 d4_2 rfl rfl rfl ?_
  refine w_arraylength (pc' := 4) (v := (1 : Int32)) C0 0 rfl rfl d4_3 rfl ?_
  refine w_istoreN (pc' := 5) (l' := #[.val (.ref o), .val (.ref a), .val (.ref a), .val (.int (1 : Int32)), .unset, .unset, .unset]) C0 d4_4 rfl rfl ?_
  refine w_iconst (pc' := 6) (v := (0 : Int32)) C0 d4_5 rfl rfl ?_
  refine w_istore (pc' := 8) (l' := #[.val (.ref o), .val (.ref a), .val (.ref a), .val (.int (1 : Int32)), .val (.int (0 : Int32)), .unset, .unset]) C0 d4_6 rfl rfl ?_
  refine w_iload (pc' := 10) C0 d4_8 rfl rfl ?_
  refine w_iloadN (pc' := 11) C0 d4_10 rfl rfl ?_
  refine w_icmp (pc' := 14) C0 false d4_11 (icmpR (i := 0) (j := 1) rfl rfl (by decide)) (by decide) rfl ?_
  refine w_aloadN (pc' := 15) C0 d4_14 rfl rfl rfl ?_
  refine w_iload (pc' := 17) C0 d4_15 rfl rfl ?_
  refine w_daload (pc' := 18) C0 0 0 rfl rfl rfl (Nat.le_of_ble_eq_true rfl) d4_17 rfl ?_
  refine w_dstore (pc' := 20) (l' := #[.val (.ref o), .val (.ref a), .val (.ref a), .val (.int (1 : Int32)), .val (.int (0 : Int32)), .val (.double d0), .second]) C0 d4_18 rfl rfl ?_
  refine w_aloadN (pc' := 21) C0 d4_20 rfl rfl rfl ?_
  refine w_dload (pc' := 23) C0 d4_21 rfl rfl ?_
  refine w_virtual (pc' := 26) (kc' := 0) (ks' := 0) (i := 1) C0 0 [(.double d0)] (cnC1 l Z a0 hw n0 a o d0 d0 h0) rfl (hw _ (List.mem_of_getElem? (i := 29) rfl)) (hw _ (List.mem_of_getElem? (i := 30) rfl)) (hw _ (List.mem_of_getElem? (i := 32) rfl)) (hw _ (List.mem_of_getElem? (i := 31) rfl)) (hw _ (List.mem_of_getElem? (i := 8) rfl)) (hw _ (List.mem_of_getElem? (i := 33) rfl)) (by decide) pd_5 rfl rfl rfl (Nat.le_of_ble_eq_true rfl) (by decide) (by decide) rfl rfl (by decide) (by decide) d4_23 rfl ?_
  intro v3 T1 H4 q5 C2
  obtain ⟨rfl, rfl⟩ := q5
  refine w_iinc (pc' := 29) (l' := #[.val (.ref o), .val (.ref a), .val (.ref a), .val (.int (1 : Int32)), .val (.int (1 : Int32)), .val (.double d0), .second]) C2 d4_26 rfl rfl rfl ?_
  refine w_goto (pc' := 8) C2 d4_29 (by decide) rfl ?_
  refine w_iload (pc' := 10) C2 d4_8 rfl rfl ?_
  refine w_iloadN (pc' := 11) C2 d4_10 rfl rfl ?_
  refine w_icmp (pc' := 32) C2 true d4_11 (icmpR (i := 1) (j := 1) rfl rfl (by decide)) (by decide) rfl ?_
  refine w_aloadN (pc' := 33) C2 d4_32 rfl rfl rfl ?_
  refine w_clone (pc' := 36) (k := 1) (ad := "[D") (kc' := 1) (ks' := 1) C2 0 0 rfl rfl (by simp [fits]) rfl (hw _ (List.mem_of_getElem? (i := 20) rfl)) (hw _ (List.mem_of_getElem? (i := 21) rfl)) (hw _ (List.mem_of_getElem? (i := 25) rfl)) (hw _ (List.mem_of_getElem? (i := 23) rfl)) (hw _ (List.mem_of_getElem? (i := 24) rfl)) (hw _ (List.mem_of_getElem? (i := 26) rfl)) rfl (Nat.le_of_ble_eq_true rfl) (by decide) (by decide) rfl rfl (by decide) (by decide) d4_33 rfl ?_
  intro T6 a8 C7
  refine w_checkcastA (pc' := 39) (ad := "[D") C7 2 rfl rfl (hw _ (List.mem_of_getElem? (i := 27) rfl)) d4_36 rfl ?_
  intro T9 C10
  exact w_areturn C10 rfl rfl rfl d4_39 ⟨_, rfl, rfl⟩
set_option maxRecDepth 65536 in
set_option maxHeartbeats 40000000 in
theorem cnI2 (l : Launch) (Z : State) (a0 : Array Value) (hw : ∀ d ∈ tables_1, d.before a0 Z = true) (n0 : Nat) (a o : Addr) (d0 : UInt64) (d1 : UInt64)  :
    Con l Z a0 n0 (⟨"com/example/sumac/sumac/links/Identity", "<init>", "()V"⟩ : MethodName) prog_6_method_1_code 1 none ({ frames := 1, cells := 0, slots := 0, locals := 12 } : Room) #[(.ref o)] [(a, .inl (.double, [(.double d0), (.double d1)])), (o, .inr ("com/example/sumac/sumac/links/Identity", []))] (fun v H' => v = none ∧ H' = [(a, .inl (.double, [(.double d0), (.double d1)])), (o, .inr ("com/example/sumac/sumac/links/Identity", []))]) := by
  refine Con.of (Ls := #[.val (.ref o)]) pn_2 (fun m => by first | (simp [entryFrame, mkF, argsToLocals, Value.category]; done) | rfl) ?_
  intro p e s m below meth c T0 hnm C0
  refine w_aloadN (pc' := 1) C0 d2_0 rfl rfl rfl ?_
  refine w_objInit (pc' := 4) C0 0 (hw _ (List.mem_of_getElem? (i := 12) rfl)) (hw _ (List.mem_of_getElem? (i := 13) rfl)) (hw _ (List.mem_of_getElem? (i := 14) rfl)) rfl (Nat.le_of_ble_eq_true rfl) (by decide) (by decide) d2_1 rfl ?_
  intro T1 C2
  exact w_return C2 rfl d2_4 ⟨rfl, rfl⟩
set_option maxRecDepth 65536 in
set_option maxHeartbeats 40000000 in
theorem cnC2 (l : Launch) (Z : State) (a0 : Array Value) (hw : ∀ d ∈ tables_1, d.before a0 Z = true) (n0 : Nat) (a o : Addr) (d0 : UInt64) (d1 : UInt64) (d : UInt64) (hd : FP.Core.val64 d ≠ .nan ∧ dv 0 < dv d ∧ ¬ dv 4607182418800017408 < dv d) :
    Con l Z a0 n0 (⟨"com/example/sumac/sumac/links/Identity", "check", "(D)V"⟩ : MethodName) prog_6_method_3_code 3 none ({ frames := 0, cells := 0, slots := 0, locals := 0 } : Room) #[(.ref o), (.double d)] [(a, .inl (.double, [(.double d0), (.double d1)])), (o, .inr ("com/example/sumac/sumac/links/Identity", []))] (fun v H' => v = none ∧ H' = [(a, .inl (.double, [(.double d0), (.double d1)])), (o, .inr ("com/example/sumac/sumac/links/Identity", []))]) := by
  refine Con.of (Ls := #[.val (.ref o), .val (.double d), .second]) pn_5 (fun m => by first | (simp [entryFrame, mkF, argsToLocals, Value.category]; done) | rfl) ?_
  intro p e s m below meth c T0 hnm C0
  refine w_dloadN (pc' := 1) C0 d5_0 rfl rfl ?_
  refine w_dconst0 (pc' := 2) C0 d5_1 rfl ?_
  refine w_dcmp (pc' := 3) C0 d5_2 rfl rfl ?_
  refine w_if (pc' := 6) C0 false d5_3 (dvR hd.1 dq_zero.ne (rel_le_f hd.2.1)) (by decide) rfl ?_
  refine w_dloadN (pc' := 7) C0 d5_6 rfl rfl ?_
  refine w_dconst1 (pc' := 8) C0 d5_7 rfl ?_
  refine w_dcmp (pc' := 9) C0 d5_8 rfl rfl ?_
  refine w_if (pc' := 26) C0 true d5_9 (dvR hd.1 dq_one.ne (rel_le_t hd.2.2)) (by decide) rfl ?_
  exact w_return C0 rfl d5_26 ⟨rfl, rfl⟩
set_option maxRecDepth 65536 in
set_option maxHeartbeats 40000000 in
theorem cnA2 (l : Launch) (Z : State) (a0 : Array Value) (hw : ∀ d ∈ tables_1, d.before a0 Z = true) (n0 : Nat) (a o : Addr) (d0 : UInt64) (d1 : UInt64) (h0 : FP.Core.val64 d0 ≠ .nan ∧ dv 0 < dv d0 ∧ ¬ dv 4607182418800017408 < dv d0) (h1 : FP.Core.val64 d1 ≠ .nan ∧ dv 0 < dv d1 ∧ ¬ dv 4607182418800017408 < dv d1) :
    Con l Z a0 n0 (⟨"com/example/sumac/sumac/links/Identity", "apply", "([D)[D"⟩ : MethodName) prog_6_method_2_code 7 (some (.array .double)) ({ frames := 1, cells := 1, slots := 2, locals := 14 } : Room) #[(.ref o), (.ref a)] [(a, .inl (.double, [(.double d0), (.double d1)])), (o, .inr ("com/example/sumac/sumac/links/Identity", []))] (fun v H' => ∃ r : Addr, v = some (.ref r) ∧ H' = [(a, .inl (.double, [(.double d0), (.double d1)])), (o, .inr ("com/example/sumac/sumac/links/Identity", [])), (r, .inl (.double, [(.double d0), (.double d1)]))]) := by
  refine Con.of (Ls := #[.val (.ref o), .val (.ref a), .unset, .unset, .unset, .unset, .unset]) pn_4 (fun m => by first | (simp [entryFrame, mkF, argsToLocals, Value.category]; done) | rfl) ?_
  intro p e s m below meth c T0 hnm C0
  refine w_aloadN (pc' := 1) C0 d4_0 rfl rfl rfl ?_
  refine w_astoreN (pc' := 2) (l' := #[.val (.ref o), .val (.ref a), .val (.ref a), .unset, .unset, .unset, .unset]) C0 d4_1 rfl rfl rfl ?_
  refine w_aloadN (pc' := 3) C0 d4_2 rfl rfl rfl ?_
  refine w_arraylength (pc' := 4) (v := (2 : Int32)) C0 0 rfl rfl d4_3 rfl ?_
  refine w_istoreN (pc' := 5) (l' := #[.val (.ref o), .val (.ref a), .val (.ref a), .val (.int (2 : Int32)), .unset, .unset, .unset]) C0 d4_4 rfl rfl ?_
  refine w_iconst (pc' := 6) (v := (0 : Int32)) C0 d4_5 rfl rfl ?_
  refine w_istore (pc' := 8) (l' := #[.val (.ref o), .val (.ref a), .val (.ref a), .val (.int (2 : Int32)), .val (.int (0 : Int32)), .unset, .unset]) C0 d4_6 rfl rfl ?_
  refine w_iload (pc' := 10) C0 d4_8 rfl rfl ?_
  refine w_iloadN (pc' := 11) C0 d4_10 rfl rfl ?_
  refine w_icmp (pc' := 14) C0 false d4_11 (icmpR (i := 0) (j := 2) rfl rfl (by decide)) (by decide) rfl ?_
  refine w_aloadN (pc' := 15) C0 d4_14 rfl rfl rfl ?_
  refine w_iload (pc' := 17) C0 d4_15 rfl rfl ?_
  refine w_daload (pc' := 18) C0 0 0 rfl rfl rfl (Nat.le_of_ble_eq_true rfl) d4_17 rfl ?_
  refine w_dstore (pc' := 20) (l' := #[.val (.ref o), .val (.ref a), .val (.ref a), .val (.int (2 : Int32)), .val (.int (0 : Int32)), .val (.double d0), .second]) C0 d4_18 rfl rfl ?_
  refine w_aloadN (pc' := 21) C0 d4_20 rfl rfl rfl ?_
  refine w_dload (pc' := 23) C0 d4_21 rfl rfl ?_
  refine w_virtual (pc' := 26) (kc' := 0) (ks' := 0) (i := 1) C0 0 [(.double d0)] (cnC2 l Z a0 hw n0 a o d0 d1 d0 h0) rfl (hw _ (List.mem_of_getElem? (i := 29) rfl)) (hw _ (List.mem_of_getElem? (i := 30) rfl)) (hw _ (List.mem_of_getElem? (i := 32) rfl)) (hw _ (List.mem_of_getElem? (i := 31) rfl)) (hw _ (List.mem_of_getElem? (i := 8) rfl)) (hw _ (List.mem_of_getElem? (i := 33) rfl)) (by decide) pd_5 rfl rfl rfl (Nat.le_of_ble_eq_true rfl) (by decide) (by decide) rfl rfl (by decide) (by decide) d4_23 rfl ?_
  intro v3 T1 H4 q5 C2
  obtain ⟨rfl, rfl⟩ := q5
  refine w_iinc (pc' := 29) (l' := #[.val (.ref o), .val (.ref a), .val (.ref a), .val (.int (2 : Int32)), .val (.int (1 : Int32)), .val (.double d0), .second]) C2 d4_26 rfl rfl rfl ?_
  refine w_goto (pc' := 8) C2 d4_29 (by decide) rfl ?_
  refine w_iload (pc' := 10) C2 d4_8 rfl rfl ?_
  refine w_iloadN (pc' := 11) C2 d4_10 rfl rfl ?_
  refine w_icmp (pc' := 14) C2 false d4_11 (icmpR (i := 1) (j := 2) rfl rfl (by decide)) (by decide) rfl ?_
  refine w_aloadN (pc' := 15) C2 d4_14 rfl rfl rfl ?_
  refine w_iload (pc' := 17) C2 d4_15 rfl rfl ?_
  refine w_daload (pc' := 18) C2 0 1 rfl rfl rfl (Nat.le_of_ble_eq_true rfl) d4_17 rfl ?_
  refine w_dstore (pc' := 20) (l' := #[.val (.ref o), .val (.ref a), .val (.ref a), .val (.int (2 : Int32)), .val (.int (1 : Int32)), .val (.double d1), .second]) C2 d4_18 rfl rfl ?_
  refine w_aloadN (pc' := 21) C2 d4_20 rfl rfl rfl ?_
  refine w_dload (pc' := 23) C2 d4_21 rfl rfl ?_
  refine w_virtual (pc' := 26) (kc' := 0) (ks' := 0) (i := 1) C2 0 [(.double d1)] (cnC2 l Z a0 hw n0 a o d0 d1 d1 h1) rfl (hw _ (List.mem_of_getElem? (i := 29) rfl)) (hw _ (List.mem_of_getElem? (i := 30) rfl)) (hw _ (List.mem_of_getElem? (i := 32) rfl)) (hw _ (List.mem_of_getElem? (i := 31) rfl)) (hw _ (List.mem_of_getElem? (i := 8) rfl)) (hw _ (List.mem_of_getElem? (i := 33) rfl)) (by decide) pd_5 rfl rfl rfl (Nat.le_of_ble_eq_true rfl) (by decide) (by decide) rfl rfl (by decide) (by decide) d4_23 rfl ?_
  intro v8 T6 H9 q10 C7
  obtain ⟨rfl, rfl⟩ := q10
  refine w_iinc (pc' := 29) (l' := #[.val (.ref o), .val (.ref a), .val (.ref a), .val (.int (2 : Int32)), .val (.int (2 : Int32)), .val (.double d1), .second]) C7 d4_26 rfl rfl rfl ?_
  refine w_goto (pc' := 8) C7 d4_29 (by decide) rfl ?_
  refine w_iload (pc' := 10) C7 d4_8 rfl rfl ?_
  refine w_iloadN (pc' := 11) C7 d4_10 rfl rfl ?_
  refine w_icmp (pc' := 32) C7 true d4_11 (icmpR (i := 2) (j := 2) rfl rfl (by decide)) (by decide) rfl ?_
  refine w_aloadN (pc' := 33) C7 d4_32 rfl rfl rfl ?_
  refine w_clone (pc' := 36) (k := 2) (ad := "[D") (kc' := 1) (ks' := 2) C7 0 0 rfl rfl (by simp [fits]) rfl (hw _ (List.mem_of_getElem? (i := 20) rfl)) (hw _ (List.mem_of_getElem? (i := 21) rfl)) (hw _ (List.mem_of_getElem? (i := 25) rfl)) (hw _ (List.mem_of_getElem? (i := 23) rfl)) (hw _ (List.mem_of_getElem? (i := 24) rfl)) (hw _ (List.mem_of_getElem? (i := 26) rfl)) rfl (Nat.le_of_ble_eq_true rfl) (by decide) (by decide) rfl rfl (by decide) (by decide) d4_33 rfl ?_
  intro T11 a13 C12
  refine w_checkcastA (pc' := 39) (ad := "[D") C12 2 rfl rfl (hw _ (List.mem_of_getElem? (i := 27) rfl)) d4_36 rfl ?_
  intro T14 C15
  exact w_areturn C15 rfl rfl rfl d4_39 ⟨_, rfl, rfl⟩
set_option maxRecDepth 65536 in
set_option maxHeartbeats 40000000 in
theorem cnI3 (l : Launch) (Z : State) (a0 : Array Value) (hw : ∀ d ∈ tables_1, d.before a0 Z = true) (n0 : Nat) (a o : Addr) (d0 : UInt64) (d1 : UInt64) (d2 : UInt64)  :
    Con l Z a0 n0 (⟨"com/example/sumac/sumac/links/Identity", "<init>", "()V"⟩ : MethodName) prog_6_method_1_code 1 none ({ frames := 1, cells := 0, slots := 0, locals := 12 } : Room) #[(.ref o)] [(a, .inl (.double, [(.double d0), (.double d1), (.double d2)])), (o, .inr ("com/example/sumac/sumac/links/Identity", []))] (fun v H' => v = none ∧ H' = [(a, .inl (.double, [(.double d0), (.double d1), (.double d2)])), (o, .inr ("com/example/sumac/sumac/links/Identity", []))]) := by
  refine Con.of (Ls := #[.val (.ref o)]) pn_2 (fun m => by first | (simp [entryFrame, mkF, argsToLocals, Value.category]; done) | rfl) ?_
  intro p e s m below meth c T0 hnm C0
  refine w_aloadN (pc' := 1) C0 d2_0 rfl rfl rfl ?_
  refine w_objInit (pc' := 4) C0 0 (hw _ (List.mem_of_getElem? (i := 12) rfl)) (hw _ (List.mem_of_getElem? (i := 13) rfl)) (hw _ (List.mem_of_getElem? (i := 14) rfl)) rfl (Nat.le_of_ble_eq_true rfl) (by decide) (by decide) d2_1 rfl ?_
  intro T1 C2
  exact w_return C2 rfl d2_4 ⟨rfl, rfl⟩
set_option maxRecDepth 65536 in
set_option maxHeartbeats 40000000 in
theorem cnC3 (l : Launch) (Z : State) (a0 : Array Value) (hw : ∀ d ∈ tables_1, d.before a0 Z = true) (n0 : Nat) (a o : Addr) (d0 : UInt64) (d1 : UInt64) (d2 : UInt64) (d : UInt64) (hd : FP.Core.val64 d ≠ .nan ∧ dv 0 < dv d ∧ ¬ dv 4607182418800017408 < dv d) :
    Con l Z a0 n0 (⟨"com/example/sumac/sumac/links/Identity", "check", "(D)V"⟩ : MethodName) prog_6_method_3_code 3 none ({ frames := 0, cells := 0, slots := 0, locals := 0 } : Room) #[(.ref o), (.double d)] [(a, .inl (.double, [(.double d0), (.double d1), (.double d2)])), (o, .inr ("com/example/sumac/sumac/links/Identity", []))] (fun v H' => v = none ∧ H' = [(a, .inl (.double, [(.double d0), (.double d1), (.double d2)])), (o, .inr ("com/example/sumac/sumac/links/Identity", []))]) := by
  refine Con.of (Ls := #[.val (.ref o), .val (.double d), .second]) pn_5 (fun m => by first | (simp [entryFrame, mkF, argsToLocals, Value.category]; done) | rfl) ?_
  intro p e s m below meth c T0 hnm C0
  refine w_dloadN (pc' := 1) C0 d5_0 rfl rfl ?_
  refine w_dconst0 (pc' := 2) C0 d5_1 rfl ?_
  refine w_dcmp (pc' := 3) C0 d5_2 rfl rfl ?_
  refine w_if (pc' := 6) C0 false d5_3 (dvR hd.1 dq_zero.ne (rel_le_f hd.2.1)) (by decide) rfl ?_
  refine w_dloadN (pc' := 7) C0 d5_6 rfl rfl ?_
  refine w_dconst1 (pc' := 8) C0 d5_7 rfl ?_
  refine w_dcmp (pc' := 9) C0 d5_8 rfl rfl ?_
  refine w_if (pc' := 26) C0 true d5_9 (dvR hd.1 dq_one.ne (rel_le_t hd.2.2)) (by decide) rfl ?_
  exact w_return C0 rfl d5_26 ⟨rfl, rfl⟩
set_option maxRecDepth 65536 in
set_option maxHeartbeats 40000000 in
theorem cnA3 (l : Launch) (Z : State) (a0 : Array Value) (hw : ∀ d ∈ tables_1, d.before a0 Z = true) (n0 : Nat) (a o : Addr) (d0 : UInt64) (d1 : UInt64) (d2 : UInt64) (h0 : FP.Core.val64 d0 ≠ .nan ∧ dv 0 < dv d0 ∧ ¬ dv 4607182418800017408 < dv d0) (h1 : FP.Core.val64 d1 ≠ .nan ∧ dv 0 < dv d1 ∧ ¬ dv 4607182418800017408 < dv d1) (h2 : FP.Core.val64 d2 ≠ .nan ∧ dv 0 < dv d2 ∧ ¬ dv 4607182418800017408 < dv d2) :
    Con l Z a0 n0 (⟨"com/example/sumac/sumac/links/Identity", "apply", "([D)[D"⟩ : MethodName) prog_6_method_2_code 7 (some (.array .double)) ({ frames := 1, cells := 1, slots := 3, locals := 14 } : Room) #[(.ref o), (.ref a)] [(a, .inl (.double, [(.double d0), (.double d1), (.double d2)])), (o, .inr ("com/example/sumac/sumac/links/Identity", []))] (fun v H' => ∃ r : Addr, v = some (.ref r) ∧ H' = [(a, .inl (.double, [(.double d0), (.double d1), (.double d2)])), (o, .inr ("com/example/sumac/sumac/links/Identity", [])), (r, .inl (.double, [(.double d0), (.double d1), (.double d2)]))]) := by
  refine Con.of (Ls := #[.val (.ref o), .val (.ref a), .unset, .unset, .unset, .unset, .unset]) pn_4 (fun m => by first | (simp [entryFrame, mkF, argsToLocals, Value.category]; done) | rfl) ?_
  intro p e s m below meth c T0 hnm C0
  refine w_aloadN (pc' := 1) C0 d4_0 rfl rfl rfl ?_
  refine w_astoreN (pc' := 2) (l' := #[.val (.ref o), .val (.ref a), .val (.ref a), .unset, .unset, .unset, .unset]) C0 d4_1 rfl rfl rfl ?_
  refine w_aloadN (pc' := 3) C0 d4_2 rfl rfl rfl ?_
  refine w_arraylength (pc' := 4) (v := (3 : Int32)) C0 0 rfl rfl d4_3 rfl ?_
  refine w_istoreN (pc' := 5) (l' := #[.val (.ref o), .val (.ref a), .val (.ref a), .val (.int (3 : Int32)), .unset, .unset, .unset]) C0 d4_4 rfl rfl ?_
  refine w_iconst (pc' := 6) (v := (0 : Int32)) C0 d4_5 rfl rfl ?_
  refine w_istore (pc' := 8) (l' := #[.val (.ref o), .val (.ref a), .val (.ref a), .val (.int (3 : Int32)), .val (.int (0 : Int32)), .unset, .unset]) C0 d4_6 rfl rfl ?_
  refine w_iload (pc' := 10) C0 d4_8 rfl rfl ?_
  refine w_iloadN (pc' := 11) C0 d4_10 rfl rfl ?_
  refine w_icmp (pc' := 14) C0 false d4_11 (icmpR (i := 0) (j := 3) rfl rfl (by decide)) (by decide) rfl ?_
  refine w_aloadN (pc' := 15) C0 d4_14 rfl rfl rfl ?_
  refine w_iload (pc' := 17) C0 d4_15 rfl rfl ?_
  refine w_daload (pc' := 18) C0 0 0 rfl rfl rfl (Nat.le_of_ble_eq_true rfl) d4_17 rfl ?_
  refine w_dstore (pc' := 20) (l' := #[.val (.ref o), .val (.ref a), .val (.ref a), .val (.int (3 : Int32)), .val (.int (0 : Int32)), .val (.double d0), .second]) C0 d4_18 rfl rfl ?_
  refine w_aloadN (pc' := 21) C0 d4_20 rfl rfl rfl ?_
  refine w_dload (pc' := 23) C0 d4_21 rfl rfl ?_
  refine w_virtual (pc' := 26) (kc' := 0) (ks' := 0) (i := 1) C0 0 [(.double d0)] (cnC3 l Z a0 hw n0 a o d0 d1 d2 d0 h0) rfl (hw _ (List.mem_of_getElem? (i := 29) rfl)) (hw _ (List.mem_of_getElem? (i := 30) rfl)) (hw _ (List.mem_of_getElem? (i := 32) rfl)) (hw _ (List.mem_of_getElem? (i := 31) rfl)) (hw _ (List.mem_of_getElem? (i := 8) rfl)) (hw _ (List.mem_of_getElem? (i := 33) rfl)) (by decide) pd_5 rfl rfl rfl (Nat.le_of_ble_eq_true rfl) (by decide) (by decide) rfl rfl (by decide) (by decide) d4_23 rfl ?_
  intro v3 T1 H4 q5 C2
  obtain ⟨rfl, rfl⟩ := q5
  refine w_iinc (pc' := 29) (l' := #[.val (.ref o), .val (.ref a), .val (.ref a), .val (.int (3 : Int32)), .val (.int (1 : Int32)), .val (.double d0), .second]) C2 d4_26 rfl rfl rfl ?_
  refine w_goto (pc' := 8) C2 d4_29 (by decide) rfl ?_
  refine w_iload (pc' := 10) C2 d4_8 rfl rfl ?_
  refine w_iloadN (pc' := 11) C2 d4_10 rfl rfl ?_
  refine w_icmp (pc' := 14) C2 false d4_11 (icmpR (i := 1) (j := 3) rfl rfl (by decide)) (by decide) rfl ?_
  refine w_aloadN (pc' := 15) C2 d4_14 rfl rfl rfl ?_
  refine w_iload (pc' := 17) C2 d4_15 rfl rfl ?_
  refine w_daload (pc' := 18) C2 0 1 rfl rfl rfl (Nat.le_of_ble_eq_true rfl) d4_17 rfl ?_
  refine w_dstore (pc' := 20) (l' := #[.val (.ref o), .val (.ref a), .val (.ref a), .val (.int (3 : Int32)), .val (.int (1 : Int32)), .val (.double d1), .second]) C2 d4_18 rfl rfl ?_
  refine w_aloadN (pc' := 21) C2 d4_20 rfl rfl rfl ?_
  refine w_dload (pc' := 23) C2 d4_21 rfl rfl ?_
  refine w_virtual (pc' := 26) (kc' := 0) (ks' := 0) (i := 1) C2 0 [(.double d1)] (cnC3 l Z a0 hw n0 a o d0 d1 d2 d1 h1) rfl (hw _ (List.mem_of_getElem? (i := 29) rfl)) (hw _ (List.mem_of_getElem? (i := 30) rfl)) (hw _ (List.mem_of_getElem? (i := 32) rfl)) (hw _ (List.mem_of_getElem? (i := 31) rfl)) (hw _ (List.mem_of_getElem? (i := 8) rfl)) (hw _ (List.mem_of_getElem? (i := 33) rfl)) (by decide) pd_5 rfl rfl rfl (Nat.le_of_ble_eq_true rfl) (by decide) (by decide) rfl rfl (by decide) (by decide) d4_23 rfl ?_
  intro v8 T6 H9 q10 C7
  obtain ⟨rfl, rfl⟩ := q10
  refine w_iinc (pc' := 29) (l' := #[.val (.ref o), .val (.ref a), .val (.ref a), .val (.int (3 : Int32)), .val (.int (2 : Int32)), .val (.double d1), .second]) C7 d4_26 rfl rfl rfl ?_
  refine w_goto (pc' := 8) C7 d4_29 (by decide) rfl ?_
  refine w_iload (pc' := 10) C7 d4_8 rfl rfl ?_
  refine w_iloadN (pc' := 11) C7 d4_10 rfl rfl ?_
  refine w_icmp (pc' := 14) C7 false d4_11 (icmpR (i := 2) (j := 3) rfl rfl (by decide)) (by decide) rfl ?_
  refine w_aloadN (pc' := 15) C7 d4_14 rfl rfl rfl ?_
  refine w_iload (pc' := 17) C7 d4_15 rfl rfl ?_
  refine w_daload (pc' := 18) C7 0 2 rfl rfl rfl (Nat.le_of_ble_eq_true rfl) d4_17 rfl ?_
  refine w_dstore (pc' := 20) (l' := #[.val (.ref o), .val (.ref a), .val (.ref a), .val (.int (3 : Int32)), .val (.int (2 : Int32)), .val (.double d2), .second]) C7 d4_18 rfl rfl ?_
  refine w_aloadN (pc' := 21) C7 d4_20 rfl rfl rfl ?_
  refine w_dload (pc' := 23) C7 d4_21 rfl rfl ?_
  refine w_virtual (pc' := 26) (kc' := 0) (ks' := 0) (i := 1) C7 0 [(.double d2)] (cnC3 l Z a0 hw n0 a o d0 d1 d2 d2 h2) rfl (hw _ (List.mem_of_getElem? (i := 29) rfl)) (hw _ (List.mem_of_getElem? (i := 30) rfl)) (hw _ (List.mem_of_getElem? (i := 32) rfl)) (hw _ (List.mem_of_getElem? (i := 31) rfl)) (hw _ (List.mem_of_getElem? (i := 8) rfl)) (hw _ (List.mem_of_getElem? (i := 33) rfl)) (by decide) pd_5 rfl rfl rfl (Nat.le_of_ble_eq_true rfl) (by decide) (by decide) rfl rfl (by decide) (by decide) d4_23 rfl ?_
  intro v13 T11 H14 q15 C12
  obtain ⟨rfl, rfl⟩ := q15
  refine w_iinc (pc' := 29) (l' := #[.val (.ref o), .val (.ref a), .val (.ref a), .val (.int (3 : Int32)), .val (.int (3 : Int32)), .val (.double d2), .second]) C12 d4_26 rfl rfl rfl ?_
  refine w_goto (pc' := 8) C12 d4_29 (by decide) rfl ?_
  refine w_iload (pc' := 10) C12 d4_8 rfl rfl ?_
  refine w_iloadN (pc' := 11) C12 d4_10 rfl rfl ?_
  refine w_icmp (pc' := 32) C12 true d4_11 (icmpR (i := 3) (j := 3) rfl rfl (by decide)) (by decide) rfl ?_
  refine w_aloadN (pc' := 33) C12 d4_32 rfl rfl rfl ?_
  refine w_clone (pc' := 36) (k := 3) (ad := "[D") (kc' := 1) (ks' := 3) C12 0 0 rfl rfl (by simp [fits]) rfl (hw _ (List.mem_of_getElem? (i := 20) rfl)) (hw _ (List.mem_of_getElem? (i := 21) rfl)) (hw _ (List.mem_of_getElem? (i := 25) rfl)) (hw _ (List.mem_of_getElem? (i := 23) rfl)) (hw _ (List.mem_of_getElem? (i := 24) rfl)) (hw _ (List.mem_of_getElem? (i := 26) rfl)) rfl (Nat.le_of_ble_eq_true rfl) (by decide) (by decide) rfl rfl (by decide) (by decide) d4_33 rfl ?_
  intro T16 a18 C17
  refine w_checkcastA (pc' := 39) (ad := "[D") C17 2 rfl rfl (hw _ (List.mem_of_getElem? (i := 27) rfl)) d4_36 rfl ?_
  intro T19 C20
  exact w_areturn C20 rfl rfl rfl d4_39 ⟨_, rfl, rfl⟩
set_option maxRecDepth 65536 in
set_option maxHeartbeats 40000000 in
theorem cn0 (l : Launch) (Z : State) (a0 : Array Value) (hw : ∀ d ∈ tables_1, d.before a0 Z = true) (n0 : Nat) (p0 p1 p2 p3 : Int32)  :
    Con l Z a0 n0 x code maxLocals ret room_1 #[(.int p0), (.int p1), (.int p2), (.int p3)] [] (fun v H' => v = some (.int 1)) := by
  refine Con.of (Ls := #[.val (.int p0), .val (.int p1), .val (.int p2), .val (.int p3), .unset, .unset, .unset, .unset, .unset, .unset, .unset, .unset, .unset]) pn_0 (fun m => by first | (simp [entryFrame, mkF, argsToLocals, Value.category, maxLocals]; done) | rfl) ?_
  intro p e s m below meth c T0 hnm C0
  refine w_iloadN (pc' := 1) C0 at_0 rfl rfl ?_
  refine w_iconst (pc' := 2) (v := (3 : Int32)) C0 at_1 rfl rfl ?_
  obtain ⟨i1, hi1⟩ : ∃ z : Int32, p0 &&& (3 : Int32) = z := ⟨_, rfl⟩
  refine w_iand (pc' := 3) (v := i1) C0 at_2 rfl hi1 ?_
  have rgi1 := and_rng hi1 (M := 3) rfl (by decide)
  have spi1 : i1 = (0 : Int32) ∨ i1 = (1 : Int32) ∨ i1 = (2 : Int32) ∨ i1 = (3 : Int32) := by
    have q0 : i1.toInt = 0 ∨ i1.toInt = 1 ∨ i1.toInt = 2 ∨ i1.toInt = 3 := by omega
    rcases q0 with q0 | q0 | q0 | q0
    · exact Or.inl (i32_lit rfl q0)
    · exact Or.inr (Or.inl (i32_lit rfl q0))
    · exact Or.inr (Or.inr (Or.inl (i32_lit rfl q0)))
    · exact Or.inr (Or.inr (Or.inr ((i32_lit rfl q0))))
  rcases spi1 with rfl | rfl | rfl | rfl
  · refine w_istore (pc' := 5) (l' := #[.val (.int p0), .val (.int p1), .val (.int p2), .val (.int p3), .val (.int (0 : Int32)), .unset, .unset, .unset, .unset, .unset, .unset, .unset, .unset]) C0 at_3 rfl rfl ?_
    refine w_iloadN (pc' := 6) C0 at_5 rfl rfl ?_
    refine w_static (pc' := 9) (kc' := 0) (ks' := 0) C0 0 [(.int p1)] (cnS l Z a0 hw n0 [] p1) (hw _ (List.mem_of_getElem? (i := 0) rfl)) (hw _ (List.mem_of_getElem? (i := 1) rfl)) (hw _ (List.mem_of_getElem? (i := 2) rfl)) (hw _ (List.mem_of_getElem? (i := 3) rfl)) (by decide) pd_1 rfl rfl rfl (Nat.le_of_ble_eq_true rfl) (by decide) (by decide) rfl rfl (by decide) (by decide) at_6 rfl ?_
    intro v5 T3 H6 q7 C4
    obtain ⟨d2, rfl, rfl, hd2⟩ := q7
    refine w_dstore (pc' := 11) (l' := #[.val (.int p0), .val (.int p1), .val (.int p2), .val (.int p3), .val (.int (0 : Int32)), .val (.double d2), .second, .unset, .unset, .unset, .unset, .unset, .unset]) C4 at_9 rfl rfl ?_
    refine w_iloadN (pc' := 12) C4 at_11 rfl rfl ?_
    refine w_static (pc' := 15) (kc' := 0) (ks' := 0) C4 0 [(.int p2)] (cnS l Z a0 hw n0 [] p2) (hw _ (List.mem_of_getElem? (i := 0) rfl)) (hw _ (List.mem_of_getElem? (i := 1) rfl)) (hw _ (List.mem_of_getElem? (i := 2) rfl)) (hw _ (List.mem_of_getElem? (i := 3) rfl)) (by decide) pd_1 rfl rfl rfl (Nat.le_of_ble_eq_true rfl) (by decide) (by decide) rfl rfl (by decide) (by decide) at_12 rfl ?_
    intro v11 T9 H12 q13 C10
    obtain ⟨d8, rfl, rfl, hd8⟩ := q13
    refine w_dstore (pc' := 17) (l' := #[.val (.int p0), .val (.int p1), .val (.int p2), .val (.int p3), .val (.int (0 : Int32)), .val (.double d2), .second, .val (.double d8), .second, .unset, .unset, .unset, .unset]) C10 at_15 rfl rfl ?_
    refine w_iloadN (pc' := 18) C10 at_17 rfl rfl ?_
    refine w_static (pc' := 21) (kc' := 0) (ks' := 0) C10 0 [(.int p3)] (cnS l Z a0 hw n0 [] p3) (hw _ (List.mem_of_getElem? (i := 0) rfl)) (hw _ (List.mem_of_getElem? (i := 1) rfl)) (hw _ (List.mem_of_getElem? (i := 2) rfl)) (hw _ (List.mem_of_getElem? (i := 3) rfl)) (by decide) pd_1 rfl rfl rfl (Nat.le_of_ble_eq_true rfl) (by decide) (by decide) rfl rfl (by decide) (by decide) at_18 rfl ?_
    intro v17 T15 H18 q19 C16
    obtain ⟨d14, rfl, rfl, hd14⟩ := q19
    refine w_dstore (pc' := 23) (l' := #[.val (.int p0), .val (.int p1), .val (.int p2), .val (.int p3), .val (.int (0 : Int32)), .val (.double d2), .second, .val (.double d8), .second, .val (.double d14), .second, .unset, .unset]) C16 at_21 rfl rfl ?_
    refine w_iload (pc' := 25) C16 at_23 rfl rfl ?_
    refine w_if (pc' := 28) C16 false at_25 (if0R (i := 0) rfl (by decide)) (by decide) rfl ?_
    refine w_iconst (pc' := 29) (v := (0 : Int32)) C16 at_28 rfl rfl ?_
    refine w_newarray (pc' := 31) (xs := []) (kc' := 1) (ks' := 0) C16 0 (hw _ (List.mem_of_getElem? (i := 5) rfl)) rfl (by decide) rfl rfl rfl (by decide) (by decide) at_29 rfl ?_
    intro T20 a22 C21
    refine w_astore (pc' := 33) (l' := #[.val (.int p0), .val (.int p1), .val (.int p2), .val (.int p3), .val (.int (0 : Int32)), .val (.double d2), .second, .val (.double d8), .second, .val (.double d14), .second, .val (.ref a22), .unset]) C21 at_31 rfl rfl rfl ?_
    refine w_goto (pc' := 99) C21 at_33 (by decide) rfl ?_
    refine w_new (pc' := 102) (fs := []) (kc' := 2) (ks' := 0) C21 (hw _ (List.mem_of_getElem? (i := 6) rfl)) (hw _ (List.mem_of_getElem? (i := 7) rfl)) (hw _ (List.mem_of_getElem? (i := 8) rfl)) (fun f hf => nomatch hf) (by decide) rfl rfl (by decide) (by decide) at_99 rfl ?_
    intro T23 a25 C24
    refine w_dup (pc' := 103) C24 at_102 rfl rfl ?_
    refine w_special (pc' := 106) (kc' := 2) (ks' := 0) C24 1 [] (cnI0 l Z a0 hw n0 a22 a25 ) rfl (hw _ (List.mem_of_getElem? (i := 9) rfl)) (hw _ (List.mem_of_getElem? (i := 10) rfl)) (hw _ (List.mem_of_getElem? (i := 8) rfl)) (hw _ (List.mem_of_getElem? (i := 11) rfl)) (by decide) pd_2 rfl rfl rfl (Nat.le_of_ble_eq_true rfl) (by decide) (by decide) rfl rfl (by decide) (by decide) at_103 rfl ?_
    intro v28 T26 H29 q30 C27
    obtain ⟨rfl, rfl⟩ := q30
    refine w_aload (pc' := 108) C27 at_106 rfl rfl rfl ?_
    refine w_virtual (pc' := 111) (kc' := 3) (ks' := 0) (i := 1) C27 0 [(.ref a22)] (cnA0 l Z a0 hw n0 a22 a25  ) rfl (hw _ (List.mem_of_getElem? (i := 15) rfl)) (hw _ (List.mem_of_getElem? (i := 16) rfl)) (hw _ (List.mem_of_getElem? (i := 18) rfl)) (hw _ (List.mem_of_getElem? (i := 17) rfl)) (hw _ (List.mem_of_getElem? (i := 8) rfl)) (hw _ (List.mem_of_getElem? (i := 19) rfl)) (by decide) pd_4 rfl rfl rfl (Nat.le_of_ble_eq_true rfl) (by decide) (by decide) rfl rfl (by decide) (by decide) at_108 rfl ?_
    intro v34 T32 H35 q36 C33
    obtain ⟨a31, rfl, rfl⟩ := q36
    refine w_astore (pc' := 113) (l' := #[.val (.int p0), .val (.int p1), .val (.int p2), .val (.int p3), .val (.int (0 : Int32)), .val (.double d2), .second, .val (.double d8), .second, .val (.double d14), .second, .val (.ref a22), .val (.ref a31)]) C33 at_111 rfl rfl rfl ?_
    refine w_aload (pc' := 115) C33 at_113 rfl rfl rfl ?_
    refine w_nonnull (pc' := 120) C33 at_115 (by decide) rfl ?_
    refine w_aload (pc' := 122) C33 at_120 rfl rfl rfl ?_
    refine w_aload (pc' := 124) C33 at_122 rfl rfl rfl ?_
    refine w_acmp (pc' := 129) C33 true at_124 (XT.aa_ne_t (refne (C33.ne (i := 2) (j := 0) rfl rfl (by decide)))) rfl rfl (by decide) rfl ?_
    refine w_aload (pc' := 131) C33 at_129 rfl rfl rfl ?_
    refine w_arraylength (pc' := 132) (v := (0 : Int32)) C33 2 rfl rfl at_131 rfl ?_
    refine w_iload (pc' := 134) C33 at_132 rfl rfl ?_
    refine w_icmp (pc' := 139) C33 true at_134 (icmpR (i := 0) (j := 0) rfl rfl (by decide)) (by decide) rfl ?_
    refine w_aload (pc' := 141) C33 at_139 rfl rfl rfl ?_
    refine w_arraylength (pc' := 142) (v := (0 : Int32)) C33 0 rfl rfl at_141 rfl ?_
    refine w_iload (pc' := 144) C33 at_142 rfl rfl ?_
    refine w_icmp (pc' := 149) C33 true at_144 (icmpR (i := 0) (j := 0) rfl rfl (by decide)) (by decide) rfl ?_
    refine w_iload (pc' := 151) C33 at_149 rfl rfl ?_
    refine w_iconst (pc' := 152) (v := (1 : Int32)) C33 at_151 rfl rfl ?_
    refine w_icmp (pc' := 177) C33 true at_152 (icmpR (i := 0) (j := 1) rfl rfl (by decide)) (by decide) rfl ?_
    refine w_iload (pc' := 179) C33 at_177 rfl rfl ?_
    refine w_iconst (pc' := 180) (v := (2 : Int32)) C33 at_179 rfl rfl ?_
    refine w_icmp (pc' := 205) C33 true at_180 (icmpR (i := 0) (j := 2) rfl rfl (by decide)) (by decide) rfl ?_
    refine w_iload (pc' := 207) C33 at_205 rfl rfl ?_
    refine w_iconst (pc' := 208) (v := (3 : Int32)) C33 at_207 rfl rfl ?_
    refine w_icmp (pc' := 233) C33 true at_208 (icmpR (i := 0) (j := 3) rfl rfl (by decide)) (by decide) rfl ?_
    refine w_iconst (pc' := 234) (v := (1 : Int32)) C33 at_233 rfl rfl ?_
    exact w_zreturn C33 rfl rfl at_234 rfl
  · refine w_istore (pc' := 5) (l' := #[.val (.int p0), .val (.int p1), .val (.int p2), .val (.int p3), .val (.int (1 : Int32)), .unset, .unset, .unset, .unset, .unset, .unset, .unset, .unset]) C0 at_3 rfl rfl ?_
    refine w_iloadN (pc' := 6) C0 at_5 rfl rfl ?_
    refine w_static (pc' := 9) (kc' := 0) (ks' := 0) C0 0 [(.int p1)] (cnS l Z a0 hw n0 [] p1) (hw _ (List.mem_of_getElem? (i := 0) rfl)) (hw _ (List.mem_of_getElem? (i := 1) rfl)) (hw _ (List.mem_of_getElem? (i := 2) rfl)) (hw _ (List.mem_of_getElem? (i := 3) rfl)) (by decide) pd_1 rfl rfl rfl (Nat.le_of_ble_eq_true rfl) (by decide) (by decide) rfl rfl (by decide) (by decide) at_6 rfl ?_
    intro v40 T38 H41 q42 C39
    obtain ⟨d37, rfl, rfl, hd37⟩ := q42
    refine w_dstore (pc' := 11) (l' := #[.val (.int p0), .val (.int p1), .val (.int p2), .val (.int p3), .val (.int (1 : Int32)), .val (.double d37), .second, .unset, .unset, .unset, .unset, .unset, .unset]) C39 at_9 rfl rfl ?_
    refine w_iloadN (pc' := 12) C39 at_11 rfl rfl ?_
    refine w_static (pc' := 15) (kc' := 0) (ks' := 0) C39 0 [(.int p2)] (cnS l Z a0 hw n0 [] p2) (hw _ (List.mem_of_getElem? (i := 0) rfl)) (hw _ (List.mem_of_getElem? (i := 1) rfl)) (hw _ (List.mem_of_getElem? (i := 2) rfl)) (hw _ (List.mem_of_getElem? (i := 3) rfl)) (by decide) pd_1 rfl rfl rfl (Nat.le_of_ble_eq_true rfl) (by decide) (by decide) rfl rfl (by decide) (by decide) at_12 rfl ?_
    intro v46 T44 H47 q48 C45
    obtain ⟨d43, rfl, rfl, hd43⟩ := q48
    refine w_dstore (pc' := 17) (l' := #[.val (.int p0), .val (.int p1), .val (.int p2), .val (.int p3), .val (.int (1 : Int32)), .val (.double d37), .second, .val (.double d43), .second, .unset, .unset, .unset, .unset]) C45 at_15 rfl rfl ?_
    refine w_iloadN (pc' := 18) C45 at_17 rfl rfl ?_
    refine w_static (pc' := 21) (kc' := 0) (ks' := 0) C45 0 [(.int p3)] (cnS l Z a0 hw n0 [] p3) (hw _ (List.mem_of_getElem? (i := 0) rfl)) (hw _ (List.mem_of_getElem? (i := 1) rfl)) (hw _ (List.mem_of_getElem? (i := 2) rfl)) (hw _ (List.mem_of_getElem? (i := 3) rfl)) (by decide) pd_1 rfl rfl rfl (Nat.le_of_ble_eq_true rfl) (by decide) (by decide) rfl rfl (by decide) (by decide) at_18 rfl ?_
    intro v52 T50 H53 q54 C51
    obtain ⟨d49, rfl, rfl, hd49⟩ := q54
    refine w_dstore (pc' := 23) (l' := #[.val (.int p0), .val (.int p1), .val (.int p2), .val (.int p3), .val (.int (1 : Int32)), .val (.double d37), .second, .val (.double d43), .second, .val (.double d49), .second, .unset, .unset]) C51 at_21 rfl rfl ?_
    refine w_iload (pc' := 25) C51 at_23 rfl rfl ?_
    refine w_if (pc' := 36) C51 true at_25 (if0R (i := 1) rfl (by decide)) (by decide) rfl ?_
    refine w_iload (pc' := 38) C51 at_36 rfl rfl ?_
    refine w_iconst (pc' := 39) (v := (1 : Int32)) C51 at_38 rfl rfl ?_
    refine w_icmp (pc' := 42) C51 false at_39 (icmpR (i := 1) (j := 1) rfl rfl (by decide)) (by decide) rfl ?_
    refine w_iconst (pc' := 43) (v := (1 : Int32)) C51 at_42 rfl rfl ?_
    refine w_newarray (pc' := 45) (xs := [(.double 0)]) (kc' := 1) (ks' := 1) C51 1 (hw _ (List.mem_of_getElem? (i := 5) rfl)) rfl (by decide) rfl rfl rfl (by decide) (by decide) at_43 rfl ?_
    intro T55 a57 C56
    refine w_dup (pc' := 46) C56 at_45 rfl rfl ?_
    refine w_iconst (pc' := 47) (v := (0 : Int32)) C56 at_46 rfl rfl ?_
    refine w_dload (pc' := 49) C56 at_47 rfl rfl ?_
    refine w_dastore (pc' := 50) (H' := [(a57, .inl (.double, [(.double d37)]))]) C56 0 0 rfl rfl (Nat.le_of_ble_eq_true rfl) (Nat.le_of_ble_eq_true rfl) rfl at_49 rfl ?_
    intro T58 C59
    refine w_astore (pc' := 52) (l' := #[.val (.int p0), .val (.int p1), .val (.int p2), .val (.int p3), .val (.int (1 : Int32)), .val (.double d37), .second, .val (.double d43), .second, .val (.double d49), .second, .val (.ref a57), .unset]) C59 at_50 rfl rfl rfl ?_
    refine w_goto (pc' := 99) C59 at_52 (by decide) rfl ?_
    refine w_new (pc' := 102) (fs := []) (kc' := 2) (ks' := 1) C59 (hw _ (List.mem_of_getElem? (i := 6) rfl)) (hw _ (List.mem_of_getElem? (i := 7) rfl)) (hw _ (List.mem_of_getElem? (i := 8) rfl)) (fun f hf => nomatch hf) (by decide) rfl rfl (by decide) (by decide) at_99 rfl ?_
    intro T60 a62 C61
    refine w_dup (pc' := 103) C61 at_102 rfl rfl ?_
    refine w_special (pc' := 106) (kc' := 2) (ks' := 1) C61 1 [] (cnI1 l Z a0 hw n0 a57 a62 d37) rfl (hw _ (List.mem_of_getElem? (i := 9) rfl)) (hw _ (List.mem_of_getElem? (i := 10) rfl)) (hw _ (List.mem_of_getElem? (i := 8) rfl)) (hw _ (List.mem_of_getElem? (i := 11) rfl)) (by decide) pd_2 rfl rfl rfl (Nat.le_of_ble_eq_true rfl) (by decide) (by decide) rfl rfl (by decide) (by decide) at_103 rfl ?_
    intro v65 T63 H66 q67 C64
    obtain ⟨rfl, rfl⟩ := q67
    refine w_aload (pc' := 108) C64 at_106 rfl rfl rfl ?_
    refine w_virtual (pc' := 111) (kc' := 3) (ks' := 2) (i := 1) C64 0 [(.ref a57)] (cnA1 l Z a0 hw n0 a57 a62 d37 hd37) rfl (hw _ (List.mem_of_getElem? (i := 15) rfl)) (hw _ (List.mem_of_getElem? (i := 16) rfl)) (hw _ (List.mem_of_getElem? (i := 18) rfl)) (hw _ (List.mem_of_getElem? (i := 17) rfl)) (hw _ (List.mem_of_getElem? (i := 8) rfl)) (hw _ (List.mem_of_getElem? (i := 19) rfl)) (by decide) pd_4 rfl rfl rfl (Nat.le_of_ble_eq_true rfl) (by decide) (by decide) rfl rfl (by decide) (by decide) at_108 rfl ?_
    intro v71 T69 H72 q73 C70
    obtain ⟨a68, rfl, rfl⟩ := q73
    refine w_astore (pc' := 113) (l' := #[.val (.int p0), .val (.int p1), .val (.int p2), .val (.int p3), .val (.int (1 : Int32)), .val (.double d37), .second, .val (.double d43), .second, .val (.double d49), .second, .val (.ref a57), .val (.ref a68)]) C70 at_111 rfl rfl rfl ?_
    refine w_aload (pc' := 115) C70 at_113 rfl rfl rfl ?_
    refine w_nonnull (pc' := 120) C70 at_115 (by decide) rfl ?_
    refine w_aload (pc' := 122) C70 at_120 rfl rfl rfl ?_
    refine w_aload (pc' := 124) C70 at_122 rfl rfl rfl ?_
    refine w_acmp (pc' := 129) C70 true at_124 (XT.aa_ne_t (refne (C70.ne (i := 2) (j := 0) rfl rfl (by decide)))) rfl rfl (by decide) rfl ?_
    refine w_aload (pc' := 131) C70 at_129 rfl rfl rfl ?_
    refine w_arraylength (pc' := 132) (v := (1 : Int32)) C70 2 rfl rfl at_131 rfl ?_
    refine w_iload (pc' := 134) C70 at_132 rfl rfl ?_
    refine w_icmp (pc' := 139) C70 true at_134 (icmpR (i := 1) (j := 1) rfl rfl (by decide)) (by decide) rfl ?_
    refine w_aload (pc' := 141) C70 at_139 rfl rfl rfl ?_
    refine w_arraylength (pc' := 142) (v := (1 : Int32)) C70 0 rfl rfl at_141 rfl ?_
    refine w_iload (pc' := 144) C70 at_142 rfl rfl ?_
    refine w_icmp (pc' := 149) C70 true at_144 (icmpR (i := 1) (j := 1) rfl rfl (by decide)) (by decide) rfl ?_
    refine w_iload (pc' := 151) C70 at_149 rfl rfl ?_
    refine w_iconst (pc' := 152) (v := (1 : Int32)) C70 at_151 rfl rfl ?_
    refine w_icmp (pc' := 155) C70 false at_152 (icmpR (i := 1) (j := 1) rfl rfl (by decide)) (by decide) rfl ?_
    refine w_aload (pc' := 157) C70 at_155 rfl rfl rfl ?_
    refine w_iconst (pc' := 158) (v := (0 : Int32)) C70 at_157 rfl rfl ?_
    refine w_daload (pc' := 159) C70 2 0 rfl rfl rfl (Nat.le_of_ble_eq_true rfl) at_158 rfl ?_
    refine w_dload (pc' := 161) C70 at_159 rfl rfl ?_
    refine w_dcmp (pc' := 162) C70 at_161 rfl rfl ?_
    refine w_if (pc' := 165) C70 false at_162 (dvR hd37.1 hd37.1 (rel_ne_f rfl)) (by decide) rfl ?_
    refine w_aload (pc' := 167) C70 at_165 rfl rfl rfl ?_
    refine w_iconst (pc' := 168) (v := (0 : Int32)) C70 at_167 rfl rfl ?_
    refine w_daload (pc' := 169) C70 0 0 rfl rfl rfl (Nat.le_of_ble_eq_true rfl) at_168 rfl ?_
    refine w_dload (pc' := 171) C70 at_169 rfl rfl ?_
    refine w_dcmp (pc' := 172) C70 at_171 rfl rfl ?_
    refine w_if (pc' := 177) C70 true at_172 (dvR hd37.1 hd37.1 (rel_eq_t rfl)) (by decide) rfl ?_
    refine w_iload (pc' := 179) C70 at_177 rfl rfl ?_
    refine w_iconst (pc' := 180) (v := (2 : Int32)) C70 at_179 rfl rfl ?_
    refine w_icmp (pc' := 205) C70 true at_180 (icmpR (i := 1) (j := 2) rfl rfl (by decide)) (by decide) rfl ?_
    refine w_iload (pc' := 207) C70 at_205 rfl rfl ?_
    refine w_iconst (pc' := 208) (v := (3 : Int32)) C70 at_207 rfl rfl ?_
    refine w_icmp (pc' := 233) C70 true at_208 (icmpR (i := 1) (j := 3) rfl rfl (by decide)) (by decide) rfl ?_
    refine w_iconst (pc' := 234) (v := (1 : Int32)) C70 at_233 rfl rfl ?_
    exact w_zreturn C70 rfl rfl at_234 rfl
  · refine w_istore (pc' := 5) (l' := #[.val (.int p0), .val (.int p1), .val (.int p2), .val (.int p3), .val (.int (2 : Int32)), .unset, .unset, .unset, .unset, .unset, .unset, .unset, .unset]) C0 at_3 rfl rfl ?_
    refine w_iloadN (pc' := 6) C0 at_5 rfl rfl ?_
    refine w_static (pc' := 9) (kc' := 0) (ks' := 0) C0 0 [(.int p1)] (cnS l Z a0 hw n0 [] p1) (hw _ (List.mem_of_getElem? (i := 0) rfl)) (hw _ (List.mem_of_getElem? (i := 1) rfl)) (hw _ (List.mem_of_getElem? (i := 2) rfl)) (hw _ (List.mem_of_getElem? (i := 3) rfl)) (by decide) pd_1 rfl rfl rfl (Nat.le_of_ble_eq_true rfl) (by decide) (by decide) rfl rfl (by decide) (by decide) at_6 rfl ?_
    intro v77 T75 H78 q79 C76
    obtain ⟨d74, rfl, rfl, hd74⟩ := q79
    refine w_dstore (pc' := 11) (l' := #[.val (.int p0), .val (.int p1), .val (.int p2), .val (.int p3), .val (.int (2 : Int32)), .val (.double d74), .second, .unset, .unset, .unset, .unset, .unset, .unset]) C76 at_9 rfl rfl ?_
    refine w_iloadN (pc' := 12) C76 at_11 rfl rfl ?_
    refine w_static (pc' := 15) (kc' := 0) (ks' := 0) C76 0 [(.int p2)] (cnS l Z a0 hw n0 [] p2) (hw _ (List.mem_of_getElem? (i := 0) rfl)) (hw _ (List.mem_of_getElem? (i := 1) rfl)) (hw _ (List.mem_of_getElem? (i := 2) rfl)) (hw _ (List.mem_of_getElem? (i := 3) rfl)) (by decide) pd_1 rfl rfl rfl (Nat.le_of_ble_eq_true rfl) (by decide) (by decide) rfl rfl (by decide) (by decide) at_12 rfl ?_
    intro v83 T81 H84 q85 C82
    obtain ⟨d80, rfl, rfl, hd80⟩ := q85
    refine w_dstore (pc' := 17) (l' := #[.val (.int p0), .val (.int p1), .val (.int p2), .val (.int p3), .val (.int (2 : Int32)), .val (.double d74), .second, .val (.double d80), .second, .unset, .unset, .unset, .unset]) C82 at_15 rfl rfl ?_
    refine w_iloadN (pc' := 18) C82 at_17 rfl rfl ?_
    refine w_static (pc' := 21) (kc' := 0) (ks' := 0) C82 0 [(.int p3)] (cnS l Z a0 hw n0 [] p3) (hw _ (List.mem_of_getElem? (i := 0) rfl)) (hw _ (List.mem_of_getElem? (i := 1) rfl)) (hw _ (List.mem_of_getElem? (i := 2) rfl)) (hw _ (List.mem_of_getElem? (i := 3) rfl)) (by decide) pd_1 rfl rfl rfl (Nat.le_of_ble_eq_true rfl) (by decide) (by decide) rfl rfl (by decide) (by decide) at_18 rfl ?_
    intro v89 T87 H90 q91 C88
    obtain ⟨d86, rfl, rfl, hd86⟩ := q91
    refine w_dstore (pc' := 23) (l' := #[.val (.int p0), .val (.int p1), .val (.int p2), .val (.int p3), .val (.int (2 : Int32)), .val (.double d74), .second, .val (.double d80), .second, .val (.double d86), .second, .unset, .unset]) C88 at_21 rfl rfl ?_
    refine w_iload (pc' := 25) C88 at_23 rfl rfl ?_
    refine w_if (pc' := 36) C88 true at_25 (if0R (i := 2) rfl (by decide)) (by decide) rfl ?_
    refine w_iload (pc' := 38) C88 at_36 rfl rfl ?_
    refine w_iconst (pc' := 39) (v := (1 : Int32)) C88 at_38 rfl rfl ?_
    refine w_icmp (pc' := 55) C88 true at_39 (icmpR (i := 2) (j := 1) rfl rfl (by decide)) (by decide) rfl ?_
    refine w_iload (pc' := 57) C88 at_55 rfl rfl ?_
    refine w_iconst (pc' := 58) (v := (2 : Int32)) C88 at_57 rfl rfl ?_
    refine w_icmp (pc' := 61) C88 false at_58 (icmpR (i := 2) (j := 2) rfl rfl (by decide)) (by decide) rfl ?_
    refine w_iconst (pc' := 62) (v := (2 : Int32)) C88 at_61 rfl rfl ?_
    refine w_newarray (pc' := 64) (xs := [(.double 0), (.double 0)]) (kc' := 1) (ks' := 2) C88 2 (hw _ (List.mem_of_getElem? (i := 5) rfl)) rfl (by decide) rfl rfl rfl (by decide) (by decide) at_62 rfl ?_
    intro T92 a94 C93
    refine w_dup (pc' := 65) C93 at_64 rfl rfl ?_
    refine w_iconst (pc' := 66) (v := (0 : Int32)) C93 at_65 rfl rfl ?_
    refine w_dload (pc' := 68) C93 at_66 rfl rfl ?_
    refine w_dastore (pc' := 69) (H' := [(a94, .inl (.double, [(.double d74), (.double 0)]))]) C93 0 0 rfl rfl (Nat.le_of_ble_eq_true rfl) (Nat.le_of_ble_eq_true rfl) rfl at_68 rfl ?_
    intro T95 C96
    refine w_dup (pc' := 70) C96 at_69 rfl rfl ?_
    refine w_iconst (pc' := 71) (v := (1 : Int32)) C96 at_70 rfl rfl ?_
    refine w_dload (pc' := 73) C96 at_71 rfl rfl ?_
    refine w_dastore (pc' := 74) (H' := [(a94, .inl (.double, [(.double d74), (.double d80)]))]) C96 0 1 rfl rfl (Nat.le_of_ble_eq_true rfl) (Nat.le_of_ble_eq_true rfl) rfl at_73 rfl ?_
    intro T97 C98
    refine w_astore (pc' := 76) (l' := #[.val (.int p0), .val (.int p1), .val (.int p2), .val (.int p3), .val (.int (2 : Int32)), .val (.double d74), .second, .val (.double d80), .second, .val (.double d86), .second, .val (.ref a94), .unset]) C98 at_74 rfl rfl rfl ?_
    refine w_goto (pc' := 99) C98 at_76 (by decide) rfl ?_
    refine w_new (pc' := 102) (fs := []) (kc' := 2) (ks' := 2) C98 (hw _ (List.mem_of_getElem? (i := 6) rfl)) (hw _ (List.mem_of_getElem? (i := 7) rfl)) (hw _ (List.mem_of_getElem? (i := 8) rfl)) (fun f hf => nomatch hf) (by decide) rfl rfl (by decide) (by decide) at_99 rfl ?_
    intro T99 a101 C100
    refine w_dup (pc' := 103) C100 at_102 rfl rfl ?_
    refine w_special (pc' := 106) (kc' := 2) (ks' := 2) C100 1 [] (cnI2 l Z a0 hw n0 a94 a101 d74 d80) rfl (hw _ (List.mem_of_getElem? (i := 9) rfl)) (hw _ (List.mem_of_getElem? (i := 10) rfl)) (hw _ (List.mem_of_getElem? (i := 8) rfl)) (hw _ (List.mem_of_getElem? (i := 11) rfl)) (by decide) pd_2 rfl rfl rfl (Nat.le_of_ble_eq_true rfl) (by decide) (by decide) rfl rfl (by decide) (by decide) at_103 rfl ?_
    intro v104 T102 H105 q106 C103
    obtain ⟨rfl, rfl⟩ := q106
    refine w_aload (pc' := 108) C103 at_106 rfl rfl rfl ?_
    refine w_virtual (pc' := 111) (kc' := 3) (ks' := 4) (i := 1) C103 0 [(.ref a94)] (cnA2 l Z a0 hw n0 a94 a101 d74 d80 hd74 hd80) rfl (hw _ (List.mem_of_getElem? (i := 15) rfl)) (hw _ (List.mem_of_getElem? (i := 16) rfl)) (hw _ (List.mem_of_getElem? (i := 18) rfl)) (hw _ (List.mem_of_getElem? (i := 17) rfl)) (hw _ (List.mem_of_getElem? (i := 8) rfl)) (hw _ (List.mem_of_getElem? (i := 19) rfl)) (by decide) pd_4 rfl rfl rfl (Nat.le_of_ble_eq_true rfl) (by decide) (by decide) rfl rfl (by decide) (by decide) at_108 rfl ?_
    intro v110 T108 H111 q112 C109
    obtain ⟨a107, rfl, rfl⟩ := q112
    refine w_astore (pc' := 113) (l' := #[.val (.int p0), .val (.int p1), .val (.int p2), .val (.int p3), .val (.int (2 : Int32)), .val (.double d74), .second, .val (.double d80), .second, .val (.double d86), .second, .val (.ref a94), .val (.ref a107)]) C109 at_111 rfl rfl rfl ?_
    refine w_aload (pc' := 115) C109 at_113 rfl rfl rfl ?_
    refine w_nonnull (pc' := 120) C109 at_115 (by decide) rfl ?_
    refine w_aload (pc' := 122) C109 at_120 rfl rfl rfl ?_
    refine w_aload (pc' := 124) C109 at_122 rfl rfl rfl ?_
    refine w_acmp (pc' := 129) C109 true at_124 (XT.aa_ne_t (refne (C109.ne (i := 2) (j := 0) rfl rfl (by decide)))) rfl rfl (by decide) rfl ?_
    refine w_aload (pc' := 131) C109 at_129 rfl rfl rfl ?_
    refine w_arraylength (pc' := 132) (v := (2 : Int32)) C109 2 rfl rfl at_131 rfl ?_
    refine w_iload (pc' := 134) C109 at_132 rfl rfl ?_
    refine w_icmp (pc' := 139) C109 true at_134 (icmpR (i := 2) (j := 2) rfl rfl (by decide)) (by decide) rfl ?_
    refine w_aload (pc' := 141) C109 at_139 rfl rfl rfl ?_
    refine w_arraylength (pc' := 142) (v := (2 : Int32)) C109 0 rfl rfl at_141 rfl ?_
    refine w_iload (pc' := 144) C109 at_142 rfl rfl ?_
    refine w_icmp (pc' := 149) C109 true at_144 (icmpR (i := 2) (j := 2) rfl rfl (by decide)) (by decide) rfl ?_
    refine w_iload (pc' := 151) C109 at_149 rfl rfl ?_
    refine w_iconst (pc' := 152) (v := (1 : Int32)) C109 at_151 rfl rfl ?_
    refine w_icmp (pc' := 155) C109 false at_152 (icmpR (i := 2) (j := 1) rfl rfl (by decide)) (by decide) rfl ?_
    refine w_aload (pc' := 157) C109 at_155 rfl rfl rfl ?_
    refine w_iconst (pc' := 158) (v := (0 : Int32)) C109 at_157 rfl rfl ?_
    refine w_daload (pc' := 159) C109 2 0 rfl rfl rfl (Nat.le_of_ble_eq_true rfl) at_158 rfl ?_
    refine w_dload (pc' := 161) C109 at_159 rfl rfl ?_
    refine w_dcmp (pc' := 162) C109 at_161 rfl rfl ?_
    refine w_if (pc' := 165) C109 false at_162 (dvR hd74.1 hd74.1 (rel_ne_f rfl)) (by decide) rfl ?_
    refine w_aload (pc' := 167) C109 at_165 rfl rfl rfl ?_
    refine w_iconst (pc' := 168) (v := (0 : Int32)) C109 at_167 rfl rfl ?_
    refine w_daload (pc' := 169) C109 0 0 rfl rfl rfl (Nat.le_of_ble_eq_true rfl) at_168 rfl ?_
    refine w_dload (pc' := 171) C109 at_169 rfl rfl ?_
    refine w_dcmp (pc' := 172) C109 at_171 rfl rfl ?_
    refine w_if (pc' := 177) C109 true at_172 (dvR hd74.1 hd74.1 (rel_eq_t rfl)) (by decide) rfl ?_
    refine w_iload (pc' := 179) C109 at_177 rfl rfl ?_
    refine w_iconst (pc' := 180) (v := (2 : Int32)) C109 at_179 rfl rfl ?_
    refine w_icmp (pc' := 183) C109 false at_180 (icmpR (i := 2) (j := 2) rfl rfl (by decide)) (by decide) rfl ?_
    refine w_aload (pc' := 185) C109 at_183 rfl rfl rfl ?_
    refine w_iconst (pc' := 186) (v := (1 : Int32)) C109 at_185 rfl rfl ?_
    refine w_daload (pc' := 187) C109 2 1 rfl rfl rfl (Nat.le_of_ble_eq_true rfl) at_186 rfl ?_
    refine w_dload (pc' := 189) C109 at_187 rfl rfl ?_
    refine w_dcmp (pc' := 190) C109 at_189 rfl rfl ?_
    refine w_if (pc' := 193) C109 false at_190 (dvR hd80.1 hd80.1 (rel_ne_f rfl)) (by decide) rfl ?_
    refine w_aload (pc' := 195) C109 at_193 rfl rfl rfl ?_
    refine w_iconst (pc' := 196) (v := (1 : Int32)) C109 at_195 rfl rfl ?_
    refine w_daload (pc' := 197) C109 0 1 rfl rfl rfl (Nat.le_of_ble_eq_true rfl) at_196 rfl ?_
    refine w_dload (pc' := 199) C109 at_197 rfl rfl ?_
    refine w_dcmp (pc' := 200) C109 at_199 rfl rfl ?_
    refine w_if (pc' := 205) C109 true at_200 (dvR hd80.1 hd80.1 (rel_eq_t rfl)) (by decide) rfl ?_
    refine w_iload (pc' := 207) C109 at_205 rfl rfl ?_
    refine w_iconst (pc' := 208) (v := (3 : Int32)) C109 at_207 rfl rfl ?_
    refine w_icmp (pc' := 233) C109 true at_208 (icmpR (i := 2) (j := 3) rfl rfl (by decide)) (by decide) rfl ?_
    refine w_iconst (pc' := 234) (v := (1 : Int32)) C109 at_233 rfl rfl ?_
    exact w_zreturn C109 rfl rfl at_234 rfl
  · refine w_istore (pc' := 5) (l' := #[.val (.int p0), .val (.int p1), .val (.int p2), .val (.int p3), .val (.int (3 : Int32)), .unset, .unset, .unset, .unset, .unset, .unset, .unset, .unset]) C0 at_3 rfl rfl ?_
    refine w_iloadN (pc' := 6) C0 at_5 rfl rfl ?_
    refine w_static (pc' := 9) (kc' := 0) (ks' := 0) C0 0 [(.int p1)] (cnS l Z a0 hw n0 [] p1) (hw _ (List.mem_of_getElem? (i := 0) rfl)) (hw _ (List.mem_of_getElem? (i := 1) rfl)) (hw _ (List.mem_of_getElem? (i := 2) rfl)) (hw _ (List.mem_of_getElem? (i := 3) rfl)) (by decide) pd_1 rfl rfl rfl (Nat.le_of_ble_eq_true rfl) (by decide) (by decide) rfl rfl (by decide) (by decide) at_6 rfl ?_
    intro v116 T114 H117 q118 C115
    obtain ⟨d113, rfl, rfl, hd113⟩ := q118
    refine w_dstore (pc' := 11) (l' := #[.val (.int p0), .val (.int p1), .val (.int p2), .val (.int p3), .val (.int (3 : Int32)), .val (.double d113), .second, .unset, .unset, .unset, .unset, .unset, .unset]) C115 at_9 rfl rfl ?_
    refine w_iloadN (pc' := 12) C115 at_11 rfl rfl ?_
    refine w_static (pc' := 15) (kc' := 0) (ks' := 0) C115 0 [(.int p2)] (cnS l Z a0 hw n0 [] p2) (hw _ (List.mem_of_getElem? (i := 0) rfl)) (hw _ (List.mem_of_getElem? (i := 1) rfl)) (hw _ (List.mem_of_getElem? (i := 2) rfl)) (hw _ (List.mem_of_getElem? (i := 3) rfl)) (by decide) pd_1 rfl rfl rfl (Nat.le_of_ble_eq_true rfl) (by decide) (by decide) rfl rfl (by decide) (by decide) at_12 rfl ?_
    intro v122 T120 H123 q124 C121
    obtain ⟨d119, rfl, rfl, hd119⟩ := q124
    refine w_dstore (pc' := 17) (l' := #[.val (.int p0), .val (.int p1), .val (.int p2), .val (.int p3), .val (.int (3 : Int32)), .val (.double d113), .second, .val (.double d119), .second, .unset, .unset, .unset, .unset]) C121 at_15 rfl rfl ?_
    refine w_iloadN (pc' := 18) C121 at_17 rfl rfl ?_
    refine w_static (pc' := 21) (kc' := 0) (ks' := 0) C121 0 [(.int p3)] (cnS l Z a0 hw n0 [] p3) (hw _ (List.mem_of_getElem? (i := 0) rfl)) (hw _ (List.mem_of_getElem? (i := 1) rfl)) (hw _ (List.mem_of_getElem? (i := 2) rfl)) (hw _ (List.mem_of_getElem? (i := 3) rfl)) (by decide) pd_1 rfl rfl rfl (Nat.le_of_ble_eq_true rfl) (by decide) (by decide) rfl rfl (by decide) (by decide) at_18 rfl ?_
    intro v128 T126 H129 q130 C127
    obtain ⟨d125, rfl, rfl, hd125⟩ := q130
    refine w_dstore (pc' := 23) (l' := #[.val (.int p0), .val (.int p1), .val (.int p2), .val (.int p3), .val (.int (3 : Int32)), .val (.double d113), .second, .val (.double d119), .second, .val (.double d125), .second, .unset, .unset]) C127 at_21 rfl rfl ?_
    refine w_iload (pc' := 25) C127 at_23 rfl rfl ?_
    refine w_if (pc' := 36) C127 true at_25 (if0R (i := 3) rfl (by decide)) (by decide) rfl ?_
    refine w_iload (pc' := 38) C127 at_36 rfl rfl ?_
    refine w_iconst (pc' := 39) (v := (1 : Int32)) C127 at_38 rfl rfl ?_
    refine w_icmp (pc' := 55) C127 true at_39 (icmpR (i := 3) (j := 1) rfl rfl (by decide)) (by decide) rfl ?_
    refine w_iload (pc' := 57) C127 at_55 rfl rfl ?_
    refine w_iconst (pc' := 58) (v := (2 : Int32)) C127 at_57 rfl rfl ?_
    refine w_icmp (pc' := 79) C127 true at_58 (icmpR (i := 3) (j := 2) rfl rfl (by decide)) (by decide) rfl ?_
    refine w_iconst (pc' := 80) (v := (3 : Int32)) C127 at_79 rfl rfl ?_
    refine w_newarray (pc' := 82) (xs := [(.double 0), (.double 0), (.double 0)]) (kc' := 1) (ks' := 3) C127 3 (hw _ (List.mem_of_getElem? (i := 5) rfl)) rfl (by decide) rfl rfl rfl (by decide) (by decide) at_80 rfl ?_
    intro T131 a133 C132
    refine w_dup (pc' := 83) C132 at_82 rfl rfl ?_
    refine w_iconst (pc' := 84) (v := (0 : Int32)) C132 at_83 rfl rfl ?_
    refine w_dload (pc' := 86) C132 at_84 rfl rfl ?_
    refine w_dastore (pc' := 87) (H' := [(a133, .inl (.double, [(.double d113), (.double 0), (.double 0)]))]) C132 0 0 rfl rfl (Nat.le_of_ble_eq_true rfl) (Nat.le_of_ble_eq_true rfl) rfl at_86 rfl ?_
    intro T134 C135
    refine w_dup (pc' := 88) C135 at_87 rfl rfl ?_
    refine w_iconst (pc' := 89) (v := (1 : Int32)) C135 at_88 rfl rfl ?_
    refine w_dload (pc' := 91) C135 at_89 rfl rfl ?_
    refine w_dastore (pc' := 92) (H' := [(a133, .inl (.double, [(.double d113), (.double d119), (.double 0)]))]) C135 0 1 rfl rfl (Nat.le_of_ble_eq_true rfl) (Nat.le_of_ble_eq_true rfl) rfl at_91 rfl ?_
    intro T136 C137
    refine w_dup (pc' := 93) C137 at_92 rfl rfl ?_
    refine w_iconst (pc' := 94) (v := (2 : Int32)) C137 at_93 rfl rfl ?_
    refine w_dload (pc' := 96) C137 at_94 rfl rfl ?_
    refine w_dastore (pc' := 97) (H' := [(a133, .inl (.double, [(.double d113), (.double d119), (.double d125)]))]) C137 0 2 rfl rfl (Nat.le_of_ble_eq_true rfl) (Nat.le_of_ble_eq_true rfl) rfl at_96 rfl ?_
    intro T138 C139
    refine w_astore (pc' := 99) (l' := #[.val (.int p0), .val (.int p1), .val (.int p2), .val (.int p3), .val (.int (3 : Int32)), .val (.double d113), .second, .val (.double d119), .second, .val (.double d125), .second, .val (.ref a133), .unset]) C139 at_97 rfl rfl rfl ?_
    refine w_new (pc' := 102) (fs := []) (kc' := 2) (ks' := 3) C139 (hw _ (List.mem_of_getElem? (i := 6) rfl)) (hw _ (List.mem_of_getElem? (i := 7) rfl)) (hw _ (List.mem_of_getElem? (i := 8) rfl)) (fun f hf => nomatch hf) (by decide) rfl rfl (by decide) (by decide) at_99 rfl ?_
    intro T140 a142 C141
    refine w_dup (pc' := 103) C141 at_102 rfl rfl ?_
    refine w_special (pc' := 106) (kc' := 2) (ks' := 3) C141 1 [] (cnI3 l Z a0 hw n0 a133 a142 d113 d119 d125) rfl (hw _ (List.mem_of_getElem? (i := 9) rfl)) (hw _ (List.mem_of_getElem? (i := 10) rfl)) (hw _ (List.mem_of_getElem? (i := 8) rfl)) (hw _ (List.mem_of_getElem? (i := 11) rfl)) (by decide) pd_2 rfl rfl rfl (Nat.le_of_ble_eq_true rfl) (by decide) (by decide) rfl rfl (by decide) (by decide) at_103 rfl ?_
    intro v145 T143 H146 q147 C144
    obtain ⟨rfl, rfl⟩ := q147
    refine w_aload (pc' := 108) C144 at_106 rfl rfl rfl ?_
    refine w_virtual (pc' := 111) (kc' := 3) (ks' := 6) (i := 1) C144 0 [(.ref a133)] (cnA3 l Z a0 hw n0 a133 a142 d113 d119 d125 hd113 hd119 hd125) rfl (hw _ (List.mem_of_getElem? (i := 15) rfl)) (hw _ (List.mem_of_getElem? (i := 16) rfl)) (hw _ (List.mem_of_getElem? (i := 18) rfl)) (hw _ (List.mem_of_getElem? (i := 17) rfl)) (hw _ (List.mem_of_getElem? (i := 8) rfl)) (hw _ (List.mem_of_getElem? (i := 19) rfl)) (by decide) pd_4 rfl rfl rfl (Nat.le_of_ble_eq_true rfl) (by decide) (by decide) rfl rfl (by decide) (by decide) at_108 rfl ?_
    intro v151 T149 H152 q153 C150
    obtain ⟨a148, rfl, rfl⟩ := q153
    refine w_astore (pc' := 113) (l' := #[.val (.int p0), .val (.int p1), .val (.int p2), .val (.int p3), .val (.int (3 : Int32)), .val (.double d113), .second, .val (.double d119), .second, .val (.double d125), .second, .val (.ref a133), .val (.ref a148)]) C150 at_111 rfl rfl rfl ?_
    refine w_aload (pc' := 115) C150 at_113 rfl rfl rfl ?_
    refine w_nonnull (pc' := 120) C150 at_115 (by decide) rfl ?_
    refine w_aload (pc' := 122) C150 at_120 rfl rfl rfl ?_
    refine w_aload (pc' := 124) C150 at_122 rfl rfl rfl ?_
    refine w_acmp (pc' := 129) C150 true at_124 (XT.aa_ne_t (refne (C150.ne (i := 2) (j := 0) rfl rfl (by decide)))) rfl rfl (by decide) rfl ?_
    refine w_aload (pc' := 131) C150 at_129 rfl rfl rfl ?_
    refine w_arraylength (pc' := 132) (v := (3 : Int32)) C150 2 rfl rfl at_131 rfl ?_
    refine w_iload (pc' := 134) C150 at_132 rfl rfl ?_
    refine w_icmp (pc' := 139) C150 true at_134 (icmpR (i := 3) (j := 3) rfl rfl (by decide)) (by decide) rfl ?_
    refine w_aload (pc' := 141) C150 at_139 rfl rfl rfl ?_
    refine w_arraylength (pc' := 142) (v := (3 : Int32)) C150 0 rfl rfl at_141 rfl ?_
    refine w_iload (pc' := 144) C150 at_142 rfl rfl ?_
    refine w_icmp (pc' := 149) C150 true at_144 (icmpR (i := 3) (j := 3) rfl rfl (by decide)) (by decide) rfl ?_
    refine w_iload (pc' := 151) C150 at_149 rfl rfl ?_
    refine w_iconst (pc' := 152) (v := (1 : Int32)) C150 at_151 rfl rfl ?_
    refine w_icmp (pc' := 155) C150 false at_152 (icmpR (i := 3) (j := 1) rfl rfl (by decide)) (by decide) rfl ?_
    refine w_aload (pc' := 157) C150 at_155 rfl rfl rfl ?_
    refine w_iconst (pc' := 158) (v := (0 : Int32)) C150 at_157 rfl rfl ?_
    refine w_daload (pc' := 159) C150 2 0 rfl rfl rfl (Nat.le_of_ble_eq_true rfl) at_158 rfl ?_
    refine w_dload (pc' := 161) C150 at_159 rfl rfl ?_
    refine w_dcmp (pc' := 162) C150 at_161 rfl rfl ?_
    refine w_if (pc' := 165) C150 false at_162 (dvR hd113.1 hd113.1 (rel_ne_f rfl)) (by decide) rfl ?_
    refine w_aload (pc' := 167) C150 at_165 rfl rfl rfl ?_
    refine w_iconst (pc' := 168) (v := (0 : Int32)) C150 at_167 rfl rfl ?_
    refine w_daload (pc' := 169) C150 0 0 rfl rfl rfl (Nat.le_of_ble_eq_true rfl) at_168 rfl ?_
    refine w_dload (pc' := 171) C150 at_169 rfl rfl ?_
    refine w_dcmp (pc' := 172) C150 at_171 rfl rfl ?_
    refine w_if (pc' := 177) C150 true at_172 (dvR hd113.1 hd113.1 (rel_eq_t rfl)) (by decide) rfl ?_
    refine w_iload (pc' := 179) C150 at_177 rfl rfl ?_
    refine w_iconst (pc' := 180) (v := (2 : Int32)) C150 at_179 rfl rfl ?_
    refine w_icmp (pc' := 183) C150 false at_180 (icmpR (i := 3) (j := 2) rfl rfl (by decide)) (by decide) rfl ?_
    refine w_aload (pc' := 185) C150 at_183 rfl rfl rfl ?_
    refine w_iconst (pc' := 186) (v := (1 : Int32)) C150 at_185 rfl rfl ?_
    refine w_daload (pc' := 187) C150 2 1 rfl rfl rfl (Nat.le_of_ble_eq_true rfl) at_186 rfl ?_
    refine w_dload (pc' := 189) C150 at_187 rfl rfl ?_
    refine w_dcmp (pc' := 190) C150 at_189 rfl rfl ?_
    refine w_if (pc' := 193) C150 false at_190 (dvR hd119.1 hd119.1 (rel_ne_f rfl)) (by decide) rfl ?_
    refine w_aload (pc' := 195) C150 at_193 rfl rfl rfl ?_
    refine w_iconst (pc' := 196) (v := (1 : Int32)) C150 at_195 rfl rfl ?_
    refine w_daload (pc' := 197) C150 0 1 rfl rfl rfl (Nat.le_of_ble_eq_true rfl) at_196 rfl ?_
    refine w_dload (pc' := 199) C150 at_197 rfl rfl ?_
    refine w_dcmp (pc' := 200) C150 at_199 rfl rfl ?_
    refine w_if (pc' := 205) C150 true at_200 (dvR hd119.1 hd119.1 (rel_eq_t rfl)) (by decide) rfl ?_
    refine w_iload (pc' := 207) C150 at_205 rfl rfl ?_
    refine w_iconst (pc' := 208) (v := (3 : Int32)) C150 at_207 rfl rfl ?_
    refine w_icmp (pc' := 211) C150 false at_208 (icmpR (i := 3) (j := 3) rfl rfl (by decide)) (by decide) rfl ?_
    refine w_aload (pc' := 213) C150 at_211 rfl rfl rfl ?_
    refine w_iconst (pc' := 214) (v := (2 : Int32)) C150 at_213 rfl rfl ?_
    refine w_daload (pc' := 215) C150 2 2 rfl rfl rfl (Nat.le_of_ble_eq_true rfl) at_214 rfl ?_
    refine w_dload (pc' := 217) C150 at_215 rfl rfl ?_
    refine w_dcmp (pc' := 218) C150 at_217 rfl rfl ?_
    refine w_if (pc' := 221) C150 false at_218 (dvR hd125.1 hd125.1 (rel_ne_f rfl)) (by decide) rfl ?_
    refine w_aload (pc' := 223) C150 at_221 rfl rfl rfl ?_
    refine w_iconst (pc' := 224) (v := (2 : Int32)) C150 at_223 rfl rfl ?_
    refine w_daload (pc' := 225) C150 0 2 rfl rfl rfl (Nat.le_of_ble_eq_true rfl) at_224 rfl ?_
    refine w_dload (pc' := 227) C150 at_225 rfl rfl ?_
    refine w_dcmp (pc' := 228) C150 at_227 rfl rfl ?_
    refine w_if (pc' := 233) C150 true at_228 (dvR hd125.1 hd125.1 (rel_eq_t rfl)) (by decide) rfl ?_
    refine w_iconst (pc' := 234) (v := (1 : Int32)) C150 at_233 rfl rfl ?_
    exact w_zreturn C150 rfl rfl at_234 rfl
set_option maxRecDepth 65536 in
set_option maxHeartbeats 40000000 in
theorem comes_1 {Post : Tables → Env → Array Value → State → Outcome → State → Prop} (hpost : ∀ tb e args s v u, (limb_1_1.after args s (.returned v) u = true ∧ limb_1_2.after args s (.returned v) u = true ∧ True) → FrameEnd s (.returned v) u (Jvm.fieldLocs frame_1_writes args s ++ Jvm.arrayLocs frame_1_arrays args s ++ Jvm.staticLocs frame_1_statics s) 16 128 → Post tb e args s (.returned v) u) :
    ArmFor flags0 classFile x code maxLocals ret World_1 tables_1 room_1 Calls_1 rest_1 Pre_1 Post := by
  intro l hfl _ _ p e ha hc hk s m args below hf hA hF happ hP
  obtain ⟨hcalls, hrest, hpre⟩ := hP
  obtain ⟨-, -, -, hnamed, -, -, -, hat⟩ := (Spec.applies_iff hf).mp happ
  obtain ⟨hg, hn⟩ := and_e (Cond.before_iff.mp (show (Jvm.Cond.and given_1 narrow_1).before args s = true from hpre))
  obtain ⟨hcount, hk0⟩ := and_e hg
  obtain ⟨ha0, hk1⟩ := and_e hk0
  obtain ⟨ha1, hk2⟩ := and_e hk1
  obtain ⟨ha2, hk3⟩ := and_e hk2
  obtain ⟨w0, w1, w2, w3, rfl⟩ : ∃ w0 w1 w2 w3 : Value, args = #[w0, w1, w2, w3] := by
    have hs : args.size = 4 := by simpa [Cond.value, given_1] using hcount
    obtain ⟨L⟩ := args
    match L, hs with
    | [w0, w1, w2, w3], _ => exact ⟨w0, w1, w2, w3, rfl⟩
  have hw := fun d (hd : d ∈ tables_1) => atoms_spec (ws := Jvm.Cond.code x code maxLocals ret :: tables_1) hat d (List.mem_cons_of_mem _ hd)
  have hfit : Fit s := fun {y c} hc i hi => by
    obtain ⟨ha, rfl⟩ := Array.getElem?_eq_some_iff.mp hc
    have q := List.all_eq_true.mp ((Array.all_eq_true_iff_forall_mem.mp hF) _ (Array.getElem_mem ha)) i (List.mem_range.mpr hi)
    simpa [Array.getElem?_eq_getElem hi] using q
  obtain ⟨i0, ei0⟩ := is_v ha0
  obtain rfl : w0 = (.int i0) := Option.some.inj ei0
  obtain ⟨i1, ei1⟩ := is_v ha1
  obtain rfl : w1 = (.int i1) := Option.some.inj ei1
  obtain ⟨i2, ei2⟩ := is_v ha2
  obtain rfl : w2 = (.int i2) := Option.some.inj ei2
  obtain ⟨i3, ei3⟩ := is_v hk3
  obtain rfl : w3 = (.int i3) := Option.some.inj ei3
  obtain ⟨n, o, h1, h2, h3, _, L, rfl, ⟨H', rfl, -, -, N⟩, hq⟩ := (cn0 l s _ hw s.heap.size i0 i1 i2 i3) s.heap tables_1 (Hp.nil (Nat.le_refl _)) p e ha hc hk s m _ below hf ((Spec.applies_iff_loose hf).mp happ).1 ⟨rfl, State.Warmed39.refl s, rfl⟩ trivial
  refine ⟨n, _, h1, h2, h3, hpost _ _ _ _ _ _ ⟨Cond.after_iff.mpr rfl, Cond.after_iff.mpr (eq_i res_at (Term.int_eval (1)) rfl), trivial⟩ ⟨hq.1, hq.2.1, (hq.2.2.sift fun y hy => Or.inr (N y hy)).mono (by decide) (by decide)⟩⟩
theorem main_1_1 : Claimed_1_1 := comes_1 fun _ _ _ _ _ _ h hF => ⟨h.1, hF⟩
theorem main_1_2 : Claimed_1_2 := comes_1 fun _ _ _ _ _ _ h hF => ⟨h.2.1, hF⟩
end Jvm.Pilot.@@N@@
namespace Jvm.Pilot.@@N@@
open Jvm Jvm.ClassFile Sem Op Lib Jvm.Free Jvm.Stand Jvm.Pilot.@@N@@.Jvm.D
/-! MADE BY PROGRAM (witnessworld.py) out of the Statement's table words and the real class files: 12 classes; the members and pool entries that the words name. The judged class is class 1, her method 2. -/
namespace start1
open Jvm.ClassFile
def u (s : String) : CpInfo := .utf8 (stringToUtf16 s)
/-- a pool by its gaps: so many unusable entries, then the entry; so many at the end -/
def gap : Nat → List CpInfo → List CpInfo
  | 0, r => r
  | n + 1, r => .unusable :: gap n r
def poolList (es : List (Nat × CpInfo)) (last : Nat) : List CpInfo := es.foldr (fun e r => gap e.1 (e.2 :: r)) (gap last [])
def pool (es : List (Nat × CpInfo)) (last : Nat) : Array CpInfo := ⟨poolList es last⟩
def fileOf (pool : Array CpInfo) (this : Nat) (attrs : Array Attribute := #[]) (ms : Array MethodInfo := #[]) (fl : Nat := 33) (sup : Nat := 0) (ifs : Array Nat := #[]) (fds : Array FieldInfo := #[]) : ClassFile where
  minorVersion := 0
  majorVersion := 65
  constantPool := pool
  accessFlags := fl
  thisClass := this
  superClass := sup
  interfaces := ifs
  fields := fds
  methods := ms
  attributes := attrs
def plain (name : String) (sup : Option ClassId) : Class where
  name := name
  kind := .ordinary
  loader := none
  accessFlags := 33
  super := sup
  interfaces := #[]
  cf := none
  fields := #[]
  methods := #[]
  instanceTypes := #[]
  staticTypes := #[]
  resolved := #[]
  callSites := []
  init := .initialized
  statics := none
  mirror := none

def pool0 : Array CpInfo := pool [(5, u "<init>"), (0, u "()V"), (1, .class_ 10), (1, u "java/lang/Object"), (85, u "clone"), (0, u "()Ljava/lang/Object;")] 26

def k0c0 : Code := { maxStack := 0, maxLocals := 1, code := object_method_1_code, exceptionTable := #[], attributes := #[] }
def k0m0 : Method := { name := "<init>", desc := "()V", sig := { parameters := [], returnType := none }, accessFlags := 1, code := some k0c0 }
def k0m1 : Method := { name := "clone", desc := "()Ljava/lang/Object;", sig := { parameters := [], returnType := some (.object "java/lang/Object") }, accessFlags := 260, code := none }
/-- java/lang/Object -/
def k0 : Class := { plain "java/lang/Object" none with
  accessFlags := 33
  interfaces := #[]
  cf := some (fileOf pool0 8 #[] #[{ accessFlags := 1, nameIndex := 5, descriptorIndex := 6, attributes := #[] }, { accessFlags := 260, nameIndex := 96, descriptorIndex := 97, attributes := #[] }] 33 0 #[] #[])
  fields := #[]
  methods := #[k0m0, k0m1]
  instanceTypes := #[]
  staticTypes := #[]
  resolved := Array.replicate 124 none
  statics := none }

def pool1 : Array CpInfo := pool [(2, .class_ 4), (0, .nameAndType 5 6), (0, u "java/lang/Object"), (0, u "<init>"), (0, u "()V"), (0, .double 4652218415073722368), (1, .methodref 10 11), (0, .class_ 12), (0, .nameAndType 13 14), (0, u "com/example/sumac/sumac/links/IdentityApplyPinLaw"), (0, u "score"), (0, u "(I)D"), (0, .class_ 16), (0, u "com/example/sumac/sumac/links/Identity"), (0, .methodref 15 3), (0, .methodref 15 19), (0, .nameAndType 20 21), (0, u "apply"), (0, u "([D)[D"), (2, u "law"), (0, u "(IIII)Z")] 5

def k1m0 : Method := { name := "<init>", desc := "()V", sig := { parameters := [], returnType := none }, accessFlags := 1, code := none }
def k1c1 : Code := { maxStack := 4, maxLocals := 1, code := method_2_code, exceptionTable := #[], attributes := #[] }
def k1m1 : Method := { name := "score", desc := "(I)D", sig := { parameters := [.int], returnType := some .double }, accessFlags := 10, code := some k1c1 }
def k1c2 : Code := { maxStack := 5, maxLocals := 13, code := code, exceptionTable := #[], attributes := #[] }
def k1m2 : Method := { name := "law", desc := "(IIII)Z", sig := { parameters := [.int, .int, .int, .int], returnType := some .boolean }, accessFlags := 9, code := some k1c2 }
/-- com/example/sumac/sumac/links/IdentityApplyPinLaw -/
def k1 : Class := { plain "com/example/sumac/sumac/links/IdentityApplyPinLaw" (some 0) with
  accessFlags := 49
  interfaces := #[]
  cf := some (fileOf pool1 10 #[] #[{ accessFlags := 1, nameIndex := 5, descriptorIndex := 6, attributes := #[] }, { accessFlags := 10, nameIndex := 13, descriptorIndex := 14, attributes := #[] }, { accessFlags := 9, nameIndex := 24, descriptorIndex := 25, attributes := #[] }] 49 2 #[] #[])
  fields := #[]
  methods := #[k1m0, k1m1, k1m2]
  instanceTypes := #[]
  staticTypes := #[]
  resolved := Array.replicate 31 none
  statics := none }

def pool2 : Array CpInfo := pool [(17, .class_ 18), (0, u "com/example/sumac/sumac/links/Transform"), (0, .class_ 20), (0, u "java/lang/Object")] 24

/-- com/example/sumac/sumac/links/Transform -/
def k2 : Class := { plain "com/example/sumac/sumac/links/Transform" (some 0) with
  accessFlags := 1537
  interfaces := #[]
  cf := some (fileOf pool2 17 #[] #[] 1537 19 #[] #[])
  fields := #[]
  methods := #[]
  instanceTypes := #[]
  staticTypes := #[]
  resolved := Array.replicate 45 none
  statics := none }

def pool3 : Array CpInfo := pool [(1, .methodref 2 3), (0, .class_ 4), (0, .nameAndType 5 6), (0, u "java/lang/Object"), (0, u "<init>"), (0, u "()V"), (0, .methodref 8 9), (0, .class_ 10), (0, .nameAndType 11 12), (0, u "com/example/sumac/sumac/links/Identity"), (0, u "check"), (0, u "(D)V"), (0, .methodref 14 15), (0, .class_ 16), (0, .nameAndType 17 18), (0, u "[D"), (0, u "clone"), (0, u "()Ljava/lang/Object;"), (9, .class_ 29), (0, u "com/example/sumac/sumac/links/Transform"), (2, u "apply"), (0, u "([D)[D")] 18

def k3c0 : Code := { maxStack := 1, maxLocals := 1, code := prog_6_method_1_code, exceptionTable := #[], attributes := #[] }
def k3m0 : Method := { name := "<init>", desc := "()V", sig := { parameters := [], returnType := none }, accessFlags := 1, code := some k3c0 }
def k3c1 : Code := { maxStack := 3, maxLocals := 7, code := prog_6_method_2_code, exceptionTable := #[], attributes := #[] }
def k3m1 : Method := { name := "apply", desc := "([D)[D", sig := { parameters := [(.array .double)], returnType := some (.array .double) }, accessFlags := 1, code := some k3c1 }
def k3c2 : Code := { maxStack := 4, maxLocals := 3, code := prog_6_method_3_code, exceptionTable := #[], attributes := #[] }
def k3m2 : Method := { name := "check", desc := "(D)V", sig := { parameters := [.double], returnType := none }, accessFlags := 1, code := some k3c2 }
/-- com/example/sumac/sumac/links/Identity -/
def k3 : Class := { plain "com/example/sumac/sumac/links/Identity" (some 0) with
  accessFlags := 49
  interfaces := #[2]
  cf := some (fileOf pool3 8 #[] #[{ accessFlags := 1, nameIndex := 5, descriptorIndex := 6, attributes := #[] }, { accessFlags := 1, nameIndex := 32, descriptorIndex := 33, attributes := #[] }, { accessFlags := 1, nameIndex := 11, descriptorIndex := 12, attributes := #[] }] 49 2 #[28] #[])
  fields := #[]
  methods := #[k3m0, k3m1, k3m2]
  instanceTypes := #[]
  staticTypes := #[]
  resolved := Array.replicate 52 none
  statics := none }

def pool4 : Array CpInfo := pool [(1, .class_ 2), (0, u "java/lang/Cloneable"), (0, .class_ 4), (0, u "java/lang/Object")] 2

/-- java/lang/Cloneable -/
def k4 : Class := { plain "java/lang/Cloneable" (some 0) with
  accessFlags := 1537
  interfaces := #[]
  cf := some (fileOf pool4 1 #[] #[] 1537 3 #[] #[])
  fields := #[]
  methods := #[]
  instanceTypes := #[]
  staticTypes := #[]
  resolved := Array.replicate 7 none
  statics := none }

def pool5 : Array CpInfo := pool [(1, u "java/io/Serializable"), (0, .class_ 1), (0, u "java/lang/Object"), (0, .class_ 3)] 3

/-- java/io/Serializable -/
def k5 : Class := { plain "java/io/Serializable" (some 0) with
  accessFlags := 1537
  interfaces := #[]
  cf := some (fileOf pool5 2 #[] #[] 1537 4 #[] #[])
  fields := #[]
  methods := #[]
  instanceTypes := #[]
  staticTypes := #[]
  resolved := Array.replicate 8 none
  statics := none }

/-- the primitive byte -/
def k6 : Class := { plain "byte" none with kind := .primitive 'B', accessFlags := 0x411 }
/-- [B -/
def k7 : Class := { plain "[B" (some 0) with kind := .array 6 .byte, interfaces := #[4, 5], accessFlags := 1041 }

/-- the primitive double -/
def k8 : Class := { plain "double" none with kind := .primitive 'D', accessFlags := 0x411 }
/-- [D -/
def k9 : Class := { plain "[D" (some 0) with kind := .array 8 .double, interfaces := #[4, 5], accessFlags := 1041 }

/-- the primitive int -/
def k10 : Class := { plain "int" none with kind := .primitive 'I', accessFlags := 0x411 }
/-- [I -/
def k11 : Class := { plain "[I" (some 0) with kind := .array 10 .int, interfaces := #[4, 5], accessFlags := 1041 }

def heap : Heap := #[]
def classes : Array Class := #[k0, k1, k2, k3, k4, k5, k6, k7, k8, k9, k10, k11]
def interned : List (Array UInt16 × Addr) := []
def slotsUsed : Nat := 0
def theMethod : MethodId := ⟨1, 2⟩
def args0 : Array Value := #[.int 2, .int 300, .int 1, .int 7]
def aboutOver (below : List Frame) : State where
  vm := { classes := classes, interned := interned.toArray }
  heap := heap
  slotsUsed := slotsUsed
  threads := #[{ frames := .invoking theMethod args0 :: below }]
def below0 : List Frame := [.native { method := ⟨0, 0⟩, args := #[] }]
def about1 : State := aboutOver below0
def p0 : Program := .bare "" "" ""
def e0 : Env := launch0.env 0 0 0
theorem w_frames : about1.frames = Frame.invoking theMethod args0 :: below0 := rfl
set_option maxRecDepth 65536 in
theorem w_args : argsFit about1.vm theMethod args0 = true := by decide +kernel
set_option maxRecDepth 65536 in
theorem w_heap : heapFits about1 = true := by decide +kernel
set_option maxRecDepth 65536 in
theorem w_runnable : about1.curStatus? = some .runnable := by decide +kernel
set_option maxRecDepth 65536 in
theorem w_alone : about1.alone = true := by decide +kernel
set_option maxRecDepth 65536 in
theorem w_named : about1.methodNamed? x = some theMethod := by decide +kernel
set_option maxRecDepth 65536 in
theorem w_hears : about1.hears theMethod below0 = true := by decide +kernel
set_option maxRecDepth 65536 in
theorem w_ripe : about1.ripe theMethod args0 below0 = true := by decide +kernel
theorem w_running : about1.status = .running := rfl
set_option maxRecDepth 65536 in
theorem w_room : about1.hasRoom e0.platform room_1 = true :=
  launch0.hasRoom_least _ room_1 (by decide +kernel) (by decide +kernel) (by decide +kernel) (by decide +kernel) (by decide +kernel) (by decide +kernel)
theorem allAtoms_all (ts : List Jvm.Cond) (a : Array Jvm.Value) (st : Jvm.State) : (allAtoms ts).before a st = ts.all (fun c => c.before a st) := by
  induction ts with
  | nil => rfl
  | cons c t ih =>
    show (Jvm.Cond.and c (allAtoms t)).before a st = _
    rw [Jvm.Cond.before_and, ih, List.all_cons]
def words1 : List Jvm.Cond := Jvm.Cond.code x code maxLocals ret :: tables_1
/-- a 'code' word, met by the world's own term for the bytes: nothing is compared byte by byte -/
theorem code_word {y : MethodName} {bytes : ByteArray} {mx : Nat} {rt : Option FieldType} {a : Array Value} {s : State} {m : MethodId} {meth : Method} {c : Code} (h1 : s.methodNamed? y = some m) (h2 : s.vm.method? m = some meth) (h3 : meth.code = some c) (h4 : c.code = bytes)
    (h5 : (c.maxLocals == mx && c.exceptionTable.isEmpty && decide (c.maxStack ≤ mostOperands) && decide (meth.sig.returnType = rt) && !meth.locks && decide (parseMethodDescriptor y.desc = some meth.sig)) = true) : (Jvm.Cond.code y bytes mx rt).before a s = true := by
  simp only [Bool.and_eq_true, beq_iff_eq, Bool.not_eq_true', decide_eq_true_eq] at h5
  obtain ⟨⟨⟨⟨⟨g1, g2⟩, g3⟩, g4⟩, g5⟩, g6⟩ := h5
  simp [Cond.before, Cond.holds, Cond.value, h1, h2, h3, h4, g1, g2, g3, g4, g5, g6]
def isCode : Jvm.Cond → Bool
  | .code _ _ _ _ => true
  | _ => false
theorem all_split {L : List Jvm.Cond} {P : Jvm.Cond → Bool} (h1 : L.all (fun c => isCode c || P c) = true) (h2 : ∀ c ∈ L.filter isCode, P c = true) : L.all P = true := by
  refine List.all_eq_true.mpr fun c hc => ?_
  have h := List.all_eq_true.mp h1 c hc
  rcases Bool.eq_false_or_eq_true (isCode c) with hi | hi
  · exact h2 c (List.mem_filter.mpr ⟨hc, hi⟩)
  · simpa [hi] using h
set_option maxRecDepth 65536 in
theorem w_c0 : (Jvm.Cond.code x code maxLocals ret).before args0 about1 = true := code_word (m := ⟨1, 2⟩) (meth := k1m2) (c := k1c2) (by decide +kernel) rfl rfl rfl (by decide +kernel)
set_option maxRecDepth 65536 in
theorem w_c1 : (Jvm.Cond.code ({ cls := "com/example/sumac/sumac/links/IdentityApplyPinLaw", name := "score", desc := "(I)D" } : Jvm.MethodName) method_2_code (1 : Nat) (Option.some Jvm.ClassFile.FieldType.double)).before args0 about1 = true := code_word (m := ⟨1, 1⟩) (meth := k1m1) (c := k1c1) (by decide +kernel) rfl rfl rfl (by decide +kernel)
set_option maxRecDepth 65536 in
theorem w_c2 : (Jvm.Cond.code ({ cls := "com/example/sumac/sumac/links/Identity", name := "<init>", desc := "()V" } : Jvm.MethodName) prog_6_method_1_code (1 : Nat) (Option.none : Option Jvm.ClassFile.FieldType)).before args0 about1 = true := code_word (m := ⟨3, 0⟩) (meth := k3m0) (c := k3c0) (by decide +kernel) rfl rfl rfl (by decide +kernel)
set_option maxRecDepth 65536 in
theorem w_c3 : (Jvm.Cond.code ({ cls := "java/lang/Object", name := "<init>", desc := "()V" } : Jvm.MethodName) object_method_1_code (1 : Nat) (Option.none : Option Jvm.ClassFile.FieldType)).before args0 about1 = true := code_word (m := ⟨0, 0⟩) (meth := k0m0) (c := k0c0) (by decide +kernel) rfl rfl rfl (by decide +kernel)
set_option maxRecDepth 65536 in
theorem w_c4 : (Jvm.Cond.code ({ cls := "com/example/sumac/sumac/links/Identity", name := "apply", desc := "([D)[D" } : Jvm.MethodName) prog_6_method_2_code (7 : Nat) (Option.some (Jvm.ClassFile.FieldType.array Jvm.ClassFile.FieldType.double))).before args0 about1 = true := code_word (m := ⟨3, 1⟩) (meth := k3m1) (c := k3c1) (by decide +kernel) rfl rfl rfl (by decide +kernel)
set_option maxRecDepth 65536 in
theorem w_c5 : (Jvm.Cond.code ({ cls := "com/example/sumac/sumac/links/Identity", name := "check", desc := "(D)V" } : Jvm.MethodName) prog_6_method_3_code (3 : Nat) (Option.none : Option Jvm.ClassFile.FieldType)).before args0 about1 = true := code_word (m := ⟨3, 2⟩) (meth := k3m2) (c := k3c2) (by decide +kernel) rfl rfl rfl (by decide +kernel)
def codes1 : List Jvm.Cond := [Jvm.Cond.code x code maxLocals ret, Jvm.Cond.code ({ cls := "com/example/sumac/sumac/links/IdentityApplyPinLaw", name := "score", desc := "(I)D" } : Jvm.MethodName) method_2_code (1 : Nat) (Option.some Jvm.ClassFile.FieldType.double), Jvm.Cond.code ({ cls := "com/example/sumac/sumac/links/Identity", name := "<init>", desc := "()V" } : Jvm.MethodName) prog_6_method_1_code (1 : Nat) (Option.none : Option Jvm.ClassFile.FieldType), Jvm.Cond.code ({ cls := "java/lang/Object", name := "<init>", desc := "()V" } : Jvm.MethodName) object_method_1_code (1 : Nat) (Option.none : Option Jvm.ClassFile.FieldType), Jvm.Cond.code ({ cls := "com/example/sumac/sumac/links/Identity", name := "apply", desc := "([D)[D" } : Jvm.MethodName) prog_6_method_2_code (7 : Nat) (Option.some (Jvm.ClassFile.FieldType.array Jvm.ClassFile.FieldType.double)), Jvm.Cond.code ({ cls := "com/example/sumac/sumac/links/Identity", name := "check", desc := "(D)V" } : Jvm.MethodName) prog_6_method_3_code (3 : Nat) (Option.none : Option Jvm.ClassFile.FieldType)]
set_option maxRecDepth 65536 in
theorem codes_eq : words1.filter isCode = codes1 := rfl
theorem w_codes : ∀ c ∈ words1.filter isCode, c.before args0 about1 = true := by
  rw [codes_eq]
  intro c hc
  simp only [codes1, List.mem_cons, List.not_mem_nil, or_false] at hc
  rcases hc with rfl | rfl | rfl | rfl | rfl | rfl
  · exact w_c0
  · exact w_c1
  · exact w_c2
  · exact w_c3
  · exact w_c4
  · exact w_c5
set_option maxRecDepth 65536 in
theorem w_t1 : (words1.take 24).all (fun c => isCode c || c.before args0 about1) = true := by decide +kernel
set_option maxRecDepth 65536 in
theorem w_t2 : (words1.drop 24).all (fun c => isCode c || c.before args0 about1) = true := by decide +kernel
theorem w_tables : (allAtoms (Jvm.Cond.code x code maxLocals ret :: tables_1)).before args0 about1 = true := by
  rw [allAtoms_all]
  show words1.all (fun c => c.before args0 about1) = true
  refine all_split ?_ w_codes
  rw [← List.take_append_drop 24 words1, List.all_append, w_t1, w_t2]
  rfl
set_option maxRecDepth 65536 in
theorem w_case : (Jvm.Cond.and given_1 narrow_1).before args0 about1 = true := by decide +kernel
theorem w_applies : (headSpec (Jvm.Cond.code x code maxLocals ret :: tables_1) room_1).applies x e0.platform about1 = true :=
  (Spec.applies_iff w_frames).mpr ⟨w_running, w_runnable, w_alone, w_named, w_hears, w_ripe, w_room, w_tables⟩
theorem atStart : AtStart classFile x code maxLocals ret World_1 tables_1 room_1 Calls_1 rest_1 Pre_1 launch0 p0 e0 about1 theMethod args0 below0 :=
  ⟨lists_1, trivial, launch0.admits_env _ _ _, launch0.least_env, fairChoices_fair.cas, fairChoices_fair.clock, w_frames, w_args, w_heap, w_applies, trivial, trivial, w_case⟩
end start1
theorem witness_1 : WitnessClaimed_1 := ⟨start1.p0, start1.e0, start1.about1, start1.theMethod, start1.args0, start1.below0, start1.atStart⟩
end Jvm.Pilot.@@N@@
